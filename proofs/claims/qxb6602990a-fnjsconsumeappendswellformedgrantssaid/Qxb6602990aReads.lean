import Derived.Test.Qxb6602990aRows
import Derived.Test.Qxb6602990aPlain
import Derived.WalkKit
import Derived.WalkSpells
import Derived.WalkLawsBesides
import Derived.Deep.QuietTactic
import Derived.BigQuiet
namespace Go.Proofs.Qxb6602990a
open Go.RowKit Go.Proofs.Qxb6602990a.Plain

theorem get_b (s : ByteArray) : ∀ (n : Nat) (h : n < s.size), ((s[n]'h).toNat : Int) = (bt s.data.toList n : Int) := fun n h => by
  have h' : n < s.data.toList.length := by simpa using h
  have e : s.data.toList.getD n 0 = s.data.toList[n] := by rw [List.getD, List.getElem?_eq_getElem h']; rfl
  unfold bt
  rw [e]
  rfl
theorem cut_is (s : ByteArray) (a b : Nat) : (s.extract a b).toList = piece s.data.toList a b := by
  rw [ByteArray.toList_eq]
  simp only [piece, ByteArray.data_extract, Array.toList_extract, List.extract_eq_take_drop, List.drop_take]
theorem eq_t {a b : Int} (h : a = b) : (a == b) = true := by simp [h]
theorem eq_f {a b : Int} (h : a ≠ b) : (a == b) = false := by simp [h]
theorem ne_t {a b : Int} (h : a ≠ b) : (a != b) = true := by simp [h]
theorem ne_f {a b : Int} (h : a = b) : (a != b) = false := by simp [h]
theorem ret_bool {a b : Bool} (h : a = b) : Ending.returned (.bool a) = .returned (.bool b) := by rw [h]

theorem nodot_step {l : List UInt8} {i k : Nat} (h : NoDot l i k) (hk : bt l k ≠ 46) : NoDot l i (k + 1) := fun j h1 h2 => by
  rcases Nat.lt_or_ge j k with c | c
  · exact h j h1 c
  · obtain rfl : j = k := by omega
    exact hk

set_option maxHeartbeats 400000 in
theorem tokEnd_any (s : ByteArray) (i : Nat) (w : World) (hs : s.size ≤ 9000000000000000000) (hi : i ≤ s.size) :
    Calls Try.prog 42 #[.string s, .int .i64 i] w fun e w' => ∃ k : Nat, e = .returned (.int .i64 k) ∧ i ≤ k ∧ k ≤ s.size ∧ NoDot s.data.toList i k ∧ (k = s.size ∨ bt s.data.toList k = 46) ∧ w' = w := by
  have hb := get_b s
  go_enter Try.func42, Try.ntmps42
  go_wp2
  go_loop [5] (fun v => ∃ k : Nat, i ≤ k ∧ k ≤ s.size ∧ v = .int .i64 k ∧ NoDot s.data.toList i k) (fun v => s.size - (intOf v).toNat)
  case atStart => exact ⟨i, Nat.le_refl _, hi, rfl, fun j h1 h2 => by omega⟩
  case round =>
    obtain ⟨k, h1, h2, rfl, hn⟩ := hrel
    have HN : Hid (NoDot s.data.toList i k) := hn
    clear hn
    by_cases hlt : k < s.size
    · by_cases hd : bt s.data.toList k = 46
      · have e1 : ((bt s.data.toList k : Int) != 46) = false := by rw [hd]; rfl
        have HD : Hid (bt s.data.toList k = 46) := hd
        clear hd
        go_wp2
        go_ret
        exact ⟨k, rfl, h1, h2, HN.out, .inr HD.out, rfl⟩
      · have e1 : ((bt s.data.toList k : Int) != 46) = true := by simp; omega
        have HD : Hid (bt s.data.toList k ≠ 46) := hd
        clear hd
        go_wp2
        go_round
        case rel => exact ⟨k + 1, by omega, by omega, by go_num, nodot_step HN.out HD.out⟩
        case measure => simp [intOf]; omega
    · have e1 : decide ((k : Int) < (s.size : Int)) = false := decide_eq_false (by omega)
      go_wp2
      go_ret
      exact ⟨k, rfl, h1, h2, HN.out, .inl (by omega), rfl⟩

theorem natsB_empty (s : ByteArray) (h : s.size = 0) : natsB s.data.toList = false := by
  have : s.data.toList = [] := List.eq_nil_of_length_eq_zero h
  rw [this]; rfl
theorem natsB_gt (s : ByteArray) (h : (s.toList == [62]) = true) : natsB s.data.toList = false := by
  rw [ByteArray.toList_eq] at h
  simp [natsB, h]
theorem natsB_dot (l : List UInt8) (k : Nat) (h : bt l k = 46) : natsB l = false := by
  rw [← Bool.not_eq_true]
  intro c
  rcases Nat.lt_or_ge k l.length with d | d
  · exact (natsB_tok c).1.nodot k d h
  · rw [bt_end l k d] at h; omega
theorem natsB_yes (s : ByteArray) (h0 : 0 < s.size) (h1 : (s.toList == [62]) = false) (h2 : NoDot s.data.toList 0 s.size) : natsB s.data.toList = true := by
  rw [ByteArray.toList_eq] at h1
  have hl : 0 < s.data.toList.length := h0
  unfold natsB
  rw [h1]
  have e : s.data.toList.isEmpty = false := by cases h : s.data.toList <;> simp_all
  rw [e]
  simp only [Bool.not_false, Bool.true_and, List.all_eq_true, bne_iff_ne]
  intro c hc e2
  obtain ⟨j, hj, e3⟩ := List.getElem_of_mem hc
  refine h2 j (Nat.zero_le _) hj ?_
  unfold bt
  have e4 : s.data.toList.getD j 0 = s.data.toList[j] := by rw [List.getD, List.getElem?_eq_getElem hj]; rfl
  rw [e4, e3, e2]
  rfl

set_option maxHeartbeats 400000 in
theorem nats_any (s : ByteArray) (w : World) (hs : s.size ≤ 9000000000000000000) :
    Calls Try.prog 22 #[.string s] w fun e w' => e = .returned (.bool (natsB s.data.toList)) ∧ w' = w := by
  have hb := get_b s
  by_cases h0 : s.size = 0
  · have e1 : ((s.size : Int) == 0) = true := eq_t (by omega)
    have HN := natsB_empty s h0
    clear h0
    go_enter Try.func22, Try.ntmps22
    go_wp2
    go_ret
    exact ⟨ret_bool HN.symm, rfl⟩
  · have e1 : ((s.size : Int) == 0) = false := eq_f (by omega)
    by_cases h1 : (s.toList == [62]) = true
    · have HN := natsB_gt s h1
      go_enter Try.func22, Try.ntmps22
      go_wp2
      go_ret
      exact ⟨ret_bool HN.symm, rfl⟩
    · have h2 : (s.toList == [62]) = false := by simpa using h1
      clear h1
      go_enter Try.func22, Try.ntmps22
      go_wp2
      go_loop [3] (fun v => ∃ k : Nat, k ≤ s.size ∧ v = .int .i64 k ∧ NoDot s.data.toList 0 k) (fun v => s.size - (intOf v).toNat)
      case atStart => exact ⟨0, Nat.zero_le _, rfl, fun j h1 h2 => by omega⟩
      case round =>
        obtain ⟨k, hk, rfl, hn⟩ := hrel
        have HN : Hid (NoDot s.data.toList 0 k) := hn
        clear hn
        by_cases hlt : k < s.size
        · by_cases hd : bt s.data.toList k = 46
          · have e1 : ((bt s.data.toList k : Int) == 46) = true := by rw [hd]; rfl
            have HD : Hid (bt s.data.toList k = 46) := hd
            clear hd
            go_wp2
            go_ret
            exact ⟨ret_bool (natsB_dot _ k HD.out).symm, rfl⟩
          · have e1 : ((bt s.data.toList k : Int) == 46) = false := by simp; omega
            have HD : Hid (bt s.data.toList k ≠ 46) := hd
            clear hd
            go_wp2
            go_round
            case rel => exact ⟨k + 1, by omega, by go_num, nodot_step HN.out HD.out⟩
            case measure => simp [intOf]; omega
        · go_wp2
          go_ret
          obtain rfl : k = s.size := by omega
          exact ⟨ret_bool (natsB_yes s (by omega) h2 HN.out).symm, rfl⟩

set_option maxHeartbeats 400000 in
theorem valid_any (s : ByteArray) (w : World) (hs : s.size ≤ 9000000000000000000) (hv : Valid s.data.toList) :
    Calls Try.prog 28 #[.string s] w fun e w' => e = .returned (.bool true) ∧ w' = w := by
  have hb := get_b s
  have hpos : 0 < s.size := by have := hv.pos; simpa using this
  have e0 : ((s.size : Int) == 0) = false := eq_f (by omega)
  have HV : Hid (Valid s.data.toList) := hv
  clear hv
  go_enter Try.func28, Try.ntmps28
  go_wp2
  go_loop [3, 4] (fun u v => ∃ st k : Nat, k ≤ s.size + 1 ∧ u = .int .i64 st ∧ v = .int .i64 k ∧ (k ≤ s.size → st ≤ k ∧ Head s.data.toList st ∧ NoDot s.data.toList st k)) (fun _ v => s.size + 1 - (intOf v).toNat)
  case atStart => exact ⟨0, 0, Nat.zero_le _, rfl, rfl, fun _ => ⟨Nat.le_refl _, .inl rfl, fun j h1 h2 => by omega⟩⟩
  case round =>
    obtain ⟨st, k, hk, rfl, rfl, hn⟩ := hrel
    by_cases hlt : k < s.size
    · obtain ⟨n1, n2, n3⟩ := hn (by omega)
      have HN2 : Hid (Head s.data.toList st) := n2
      have HN3 : Hid (NoDot s.data.toList st k) := n3
      have e1 : ((k : Int) == (s.size : Int)) = false := eq_f (by omega)
      have e1' : ((k : Int) != (s.size : Int)) = true := ne_t (by omega)
      have hk2 : k ≤ s.data.toList.length := by have e : s.data.toList.length = s.size := rfl; omega
      have hk3 : k < s.data.toList.length := by have e : s.data.toList.length = s.size := rfl; omega
      clear n2 n3 hn
      by_cases hd : bt s.data.toList k = 46
      · have e2 : ((bt s.data.toList k : Int) == 46) = true := by rw [hd]; rfl
        have r := HV.out.at_ st k HN2.out n1 hk2 HN3.out (.inr hd)
        have HD : Hid (bt s.data.toList k = 46) := hd
        have e3 : ((k : Int) == (st : Int)) = false := eq_f (by have := r.1; omega)
        have e4 : ((s.extract st k).toList == [62]) = false := by rw [cut_is]; exact beq_eq_false_iff_ne.2 (r.2 hk3)
        clear hd r
        go_wp2
        go_round
        case rel => exact ⟨k + 1, k + 1, by omega, by go_num, by go_num, fun _ => ⟨Nat.le_refl _, .inr (by simpa using HD.out), fun j h1 h2 => by omega⟩⟩
        case measure => simp [intOf]; omega
      · have e2 : ((bt s.data.toList k : Int) == 46) = false := by simp; omega
        have HD : Hid (bt s.data.toList k ≠ 46) := hd
        clear hd
        go_wp2
        go_round
        case rel => exact ⟨st, k + 1, by omega, rfl, by go_num, fun _ => ⟨by omega, HN2.out, nodot_step HN3.out HD.out⟩⟩
        case measure => simp [intOf]; omega
    · by_cases he : k = s.size
      · obtain ⟨n1, n2, n3⟩ := hn (by omega)
        have r := HV.out.at_ st k n2 n1 (by have e : s.data.toList.length = s.size := rfl; omega) n3 (.inl (by have e : s.data.toList.length = s.size := rfl; omega))
        have r1 := r.1
        subst he
        have e3 : ((s.size : Int) == (st : Int)) = false := eq_f (by omega)
        clear n2 n3 hn r
        go_wp2
        go_round
        case rel => exact ⟨s.size + 1, s.size + 1, by omega, by go_num, by go_num, fun h => by omega⟩
        case measure => simp [intOf]
      · go_wp2
        go_ret
        exact ⟨rfl, rfl⟩

set_option maxHeartbeats 400000 in
theorem has_any (s t : ByteArray) (p : Nat) (w : World) (hs : s.size ≤ 9000000000000000000) (hv : Holds s.data.toList t.data.toList p) :
    Calls Try.prog 35 #[.string s, .string t] w fun e w' => e = .returned (.bool true) ∧ w' = w := by
  have HH : Hid (Holds s.data.toList t.data.toList p) := hv
  have hple : p ≤ s.size := by have := hv.le; have e : s.data.toList.length = s.size := rfl; omega
  clear hv
  go_enter Try.func35, Try.ntmps35
  go_wp2
  go_loop [5] (fun v => ∃ k : Nat, k ≤ p ∧ v = .int .i64 k) (fun v => s.size + 1 - (intOf v).toNat)
  case atStart => exact ⟨0, Nat.zero_le _, rfl⟩
  case round =>
    obtain ⟨i, hi, rfl⟩ := hrel
    go_wp2_with fail
    refine (tokEnd_any s i _ hs (by omega)).mono ?_
    rintro e w' ⟨k, rfl, h1, h2, h3, h4, rfl⟩
    have H3 : Hid (NoDot s.data.toList i k) := h3
    have H4 : Hid (k = s.size ∨ bt s.data.toList k = 46) := h4
    clear h3 h4
    go_wp2
    · go_ret
      exact ⟨rfl, rfl⟩
    · go_round
      case rel =>
        have hno : ((s.extract i k).toList == t.toList) = false := by assumption
        refine ⟨k + 1, holds_next HH.out hi h1 h2 H3.out H4.out ?_, by go_num⟩
        rw [cut_is, ByteArray.toList_eq] at hno
        exact beq_eq_false_iff_ne.1 hno
      case measure => simp [intOf]; omega

/-- A slice of strings that can be read: it is empty, or its cells lie in a row. -/
def SRd (w : World) (a : Option Addr) (ss : List ByteArray) : Prop :=
  ss = [] ∨ ∃ b off, a = some ⟨b, off, none⟩ ∧ ∀ j, j < ss.length → w.cell? ⟨b, off + j, none⟩ = some (.string (ss.getD j ByteArray.empty))

set_option maxHeartbeats 400000 in
theorem bytes_any (a : Option Addr) (ss : List ByteArray) (cap : Nat) (w : World) (hr : SRd w a ss) (hl : ss.length ≤ 1048576) (hz : ∀ s ∈ ss, s.size ≤ 9223372036854775807) :
    Calls Try.prog 12 #[.slice a ss.length cap] w fun e w' => ∃ n : Int, e = .returned (.int .i64 n) ∧ 0 ≤ n ∧ n ≤ 3000000 ∧ w' = w := by
  rcases hr with rfl | ⟨b, off, rfl, hc⟩
  · simp only [List.length_nil]
    clear hz hl
    go_enter Try.func12, Try.ntmps12
    go_wp2
    refine wp_loop_rounds 1 ?_
    rw [rounds_succ]
    go_wp2
    go_ret
    exact ⟨0, rfl, by omega, by omega, rfl⟩
  · go_enter Try.func12, Try.ntmps12
    go_wp2
    go_loop [3, 4] (fun u v => ∃ k : Nat, ∃ n : Int, k ≤ ss.length ∧ u = .int .i64 n ∧ v = .int .i64 k ∧ 0 ≤ n ∧ n ≤ 1048576) (fun _ v => ss.length - (intOf v).toNat)
    case atStart => exact ⟨0, 0, Nat.zero_le _, rfl, rfl, by omega, by omega⟩
    case round =>
      obtain ⟨k, n, hk, rfl, rfl, hn1, hn2⟩ := hrel
      by_cases hlt : k < ss.length
      · have hck := hc k hlt
        obtain ⟨s, hs⟩ : ∃ s, s = ss.getD k ByteArray.empty := ⟨_, rfl⟩
        rw [← hs] at hck
        have hsz : s.size ≤ 9223372036854775807 := by
          rw [hs]
          have e : ss.getD k ByteArray.empty = ss[k] := by rw [List.getD, List.getElem?_eq_getElem hlt]; rfl
          rw [e]
          exact hz _ (List.getElem_mem hlt)
        clear hs hc hz
        go_wp2
        · go_ret
          exact ⟨1048577, rfl, by omega, by omega, rfl⟩
        · go_ret
          exact ⟨_, rfl, by omega, by omega, rfl⟩
        · go_round
          case rel => exact ⟨k + 1, _, by omega, rfl, by go_num, by omega, by omega⟩
          case measure => simp [intOf]; omega
      · clear hz hc
        go_wp2
        go_ret
        exact ⟨n, rfl, hn1, by omega, rfl⟩

theorem SRd.at_ {w : World} {a : Option Addr} {ss : List ByteArray} (h : SRd w a ss) {k : Nat} (hk : k < ss.length) : ∃ b off, a = some ⟨b, off, none⟩ ∧ ∀ j, j < ss.length → w.cell? ⟨b, off + j, none⟩ = some (.string (ss.getD j ByteArray.empty)) := by
  rcases h with rfl | h
  · simp at hk
  · exact h

def SomeBool (e : Ending) : Prop := ∃ b : Bool, e = .returned (.bool b)

set_option maxHeartbeats 1000000 in
theorem sums_any (k1 k2 : Int) (name part : ByteArray) (r : Bool) (a : Option Addr) (ss : List ByteArray) (cap : Nat) (a' : Option Addr) (tt : List ByteArray) (cap' : Nat) (w : World) (hr : SRd w a ss) (hr' : SRd w a' tt)
    (hn : name.size ≤ 9223372036854775807) (hp : part.size ≤ 9223372036854775807) (hl : ss.length ≤ 9223372036854775807) (hl' : tt.length ≤ 9223372036854775807)
    (hz : ∀ s ∈ ss, s.size ≤ 9223372036854775807) (hz' : ∀ s ∈ tt, s.size ≤ 9223372036854775807) :
    Calls Try.prog 33 #[.int .i64 k1, .int .i64 k2, .string name, .string part, .slice a ss.length cap, .slice a' tt.length cap', .bool r] w fun e w' => SomeBool e ∧ w' = w := by
  have HR : Hid (SRd w a ss) := hr
  have HR' : Hid (SRd w a' tt) := hr'
  have HZ : Hid (∀ s ∈ ss, s.size ≤ 9223372036854775807) := hz
  have HZ' : Hid (∀ s ∈ tt, s.size ≤ 9223372036854775807) := hz'
  clear hr hr' hz hz'
  by_cases q1 : name.size + part.size + ss.length ≤ 1048576
  · go_enter Try.func33, Try.ntmps33
    go_wp2
    go_loop [15, 16] (fun u v => ∃ k : Nat, ∃ n : Int, k ≤ ss.length ∧ u = .int .i64 n ∧ v = .int .i64 k ∧ 0 ≤ n ∧ n ≤ 1048576) (fun _ v => ss.length - (intOf v).toNat)
    case atStart => exact ⟨0, _, Nat.zero_le _, rfl, rfl, by omega, by omega⟩
    case round =>
      obtain ⟨k, n, hk, rfl, rfl, hn1, hn2⟩ := hrel
      by_cases hlt : k < ss.length
      · obtain ⟨b, off, ha, hc⟩ := HR.out.at_ hlt
        have hck := hc k hlt
        obtain ⟨s, hs⟩ : ∃ s, s = ss.getD k ByteArray.empty := ⟨_, rfl⟩
        rw [← hs] at hck
        have hsz : s.size ≤ 9223372036854775807 := by
          rw [hs]
          have e : ss.getD k ByteArray.empty = ss[k] := by rw [List.getD, List.getElem?_eq_getElem hlt]; rfl
          rw [e]
          exact HZ.out _ (List.getElem_mem hlt)
        clear hs hc
        go_wp2
        · go_ret
          exact ⟨⟨false, rfl⟩, rfl⟩
        · go_ret
          exact ⟨⟨false, rfl⟩, rfl⟩
        · go_round
          case rel => exact ⟨k + 1, _, by omega, rfl, by go_num, by omega, by omega⟩
          case measure => simp [intOf]; omega
      · by_cases q2 : n + tt.length ≤ 1048576
        · go_wp2
          go_loop [15, 17] (fun u v => ∃ k : Nat, ∃ n : Int, k ≤ tt.length ∧ u = .int .i64 n ∧ v = .int .i64 k ∧ 0 ≤ n ∧ n ≤ 1048576) (fun _ v => tt.length - (intOf v).toNat)
          case atStart => exact ⟨0, _, Nat.zero_le _, rfl, rfl, by omega, by omega⟩
          case round =>
            obtain ⟨k', n', hk', rfl, rfl, hn1', hn2'⟩ := hrel
            by_cases hlt' : k' < tt.length
            · obtain ⟨b, off, ha, hc⟩ := HR'.out.at_ hlt'
              have hck := hc k' hlt'
              obtain ⟨s, hs⟩ : ∃ s, s = tt.getD k' ByteArray.empty := ⟨_, rfl⟩
              rw [← hs] at hck
              have hsz : s.size ≤ 9223372036854775807 := by
                rw [hs]
                have e : tt.getD k' ByteArray.empty = tt[k'] := by rw [List.getD, List.getElem?_eq_getElem hlt']; rfl
                rw [e]
                exact HZ'.out _ (List.getElem_mem hlt')
              clear hs hc
              go_wp2
              · go_ret
                exact ⟨⟨false, rfl⟩, rfl⟩
              · go_ret
                exact ⟨⟨false, rfl⟩, rfl⟩
              · go_round
                case rel => exact ⟨k' + 1, _, by omega, rfl, by go_num, by omega, by omega⟩
                case measure => simp [intOf]; omega
            · go_wp2
              go_ret
              exact ⟨⟨true, rfl⟩, rfl⟩
        · go_wp2
          all_goals
            go_ret
            exact ⟨⟨false, rfl⟩, rfl⟩
  · go_enter Try.func33, Try.ntmps33
    go_wp2
    all_goals
      go_ret
      exact ⟨⟨false, rfl⟩, rfl⟩
end Go.Proofs.Qxb6602990a
