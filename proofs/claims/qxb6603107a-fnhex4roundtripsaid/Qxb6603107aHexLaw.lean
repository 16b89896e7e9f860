import Derived.Test.Qxb6603107aHex
namespace Go.Proofs.Qxb6603107a
open Go.RowKit

set_option maxHeartbeats 400000 in
theorem zzhex4_any (a : Option Addr) (bs : List Nat) (cap pos v : Nat) (w : World) (hr : BRd w a bs)
    (hl : bs.length ≤ 1048580) (hcap : bs.length ≤ cap) (hpos : pos + 4 ≤ bs.length) (hv : v < 65536) (hok : ∀ j, j < 4 → hexOk (bs.getD (pos + j) 0)) (hd : ∀ j, j < 4 → hexV (bs.getD (pos + j) 0) = v / 16 ^ (3 - j) % 16) :
    Calls Try.prog 10 #[.slice a bs.length cap, .int .i64 pos] w fun e w' => e = .returned (.tuple #[.int .i32 v, .bool true, .int .i64 ((pos : Int) + 4)]) ∧ Below w.heap.size w w' := by
  have HR : Hid (BRd w a bs) := hr
  have HOK : Hid (∀ j, j < 4 → hexOk (bs.getD (pos + j) 0)) := hok
  have HD : Hid (∀ j, j < 4 → hexV (bs.getD (pos + j) 0) = v / 16 ^ (3 - j) % 16) := hd
  clear hr hok hd
  go_enter Try.func10, Try.ntmps10
  go_wp2_with fail
  refine (hex4_any w.heap.size a bs cap pos v _ _ _ (heap_alloc_new _ _) (HR.out.below ((Below.refl _ _).alloc (Nat.le_refl _) _)) hl hcap hpos hv HOK.out HD.out).mono ?_
  rintro e w1 ⟨rfl, n, hw⟩
  have hB : Below w.heap.size w w1 := by
    rw [hw]
    exact (below_drewN ((Below.refl _ _).alloc (Nat.le_refl _) _) n).setCell (Nat.le_refl _) _
  have hc : w1.cell? ⟨w.heap.size, 1, none⟩ = some (.int .i64 ((pos : Int) + 4)) := by
    rw [hw]
    refine World.cell?_setCell_same _ _ _ (u := .int .i64 pos) ?_
    show (w.alloc _).cell? _ = _
    rw [World.cell?_alloc_mark]
    rfl
  clear hw
  go_wp2
  go_quiet (fail)
  go_wp2
  go_ret3
  exact ⟨rfl, below_drewN hB _⟩

theorem ret_int {k : IntKind} {a b : Int} (h : a = b) : Ending.returned (.int k a) = .returned (.int k b) := by rw [h]

def hexC (d : Nat) (up : Bool) : Nat := if d < 10 then 48 + d else if up = true then 55 + d else 87 + d

set_option maxHeartbeats 400000 in
theorem digit_any (d : Nat) (up : Bool) (w : World) (hd : d < 16) :
    Calls Try.prog 9 #[.int .u8 d, .bool up] w fun e w' => e = .returned (.int .u8 (hexC d up : Int)) ∧ w' = w := by
  by_cases h : d < 10
  · go_enter Try.func9, Try.ntmps9
    go_wp2
    go_ret
    refine ⟨?_, rfl⟩
    unfold hexC
    rw [if_pos h]
    go_num
  · cases up
    · go_enter Try.func9, Try.ntmps9
      go_wp2
      go_ret
      refine ⟨?_, rfl⟩
      unfold hexC
      rw [if_neg h, if_neg (by decide)]
      exact ret_int (by omega)
    · go_enter Try.func9, Try.ntmps9
      go_wp2
      go_ret
      refine ⟨?_, rfl⟩
      unfold hexC
      rw [if_neg h, if_pos rfl]
      exact ret_int (by omega)

set_option maxHeartbeats 400000 in
theorem bytes_yes (v u : Int) (a : Option Addr) (n cap : Nat) (pos : Int) (w : World) (h : n ≤ 1048576) :
    Calls Try.prog 7 #[.int .u16 v, .int .u8 u, .slice a n cap, .int .i64 pos] w fun e w' => e = .returned (.bool true) ∧ w' = w := by
  go_enter Try.func7, Try.ntmps7
  go_wp2
  go_ret
  exact ⟨rfl, rfl⟩
set_option maxHeartbeats 400000 in
theorem bytes_no (v u : Int) (a : Option Addr) (n cap : Nat) (pos : Int) (w : World) (h : 1048576 < n) :
    Calls Try.prog 7 #[.int .u16 v, .int .u8 u, .slice a n cap, .int .i64 pos] w fun e w' => e = .returned (.bool false) ∧ w' = w := by
  go_enter Try.func7, Try.ntmps7
  go_wp2
  go_ret
  exact ⟨rfl, rfl⟩

def bv (n : Nat) : Value := .int .u8 (n : Int)
def dg (v up k : Nat) : Nat := hexC (v / 16 ^ (3 - k) % 16) (up / 2 ^ k % 2 == 1)
def digs (v up : Nat) : List Nat := [dg v up 0, dg v up 1, dg v up 2, dg v up 3]

theorem bv_one (l : List Nat) : ∀ u ∈ l.map bv, u.oneCell' = true := by
  intro u hu
  obtain ⟨s, _, rfl⟩ := List.mem_map.1 hu
  rfl
theorem add_lit (b o j : Nat) : (⟨b, o, none⟩ : Addr).add j = ⟨b, o + j, none⟩ := by unfold Addr.add; split <;> simp_all

theorem cells_take {w : World} {g : Nat} {bs : List Nat} {pos : Nat} (h : BRd w (some ⟨g, 0, none⟩) bs) (hp : pos ≤ bs.length) :
    ∀ ad, (some ⟨g, 0, none⟩ : Option Addr) = some ad → ∀ j u, ((bs.take pos).map bv)[j]? = some u → w.cell? (ad.add j) = some u := by
  intro ad had j u hj
  obtain rfl := Option.some.inj had
  have hjp : j < pos := by
    have := (List.getElem?_eq_some_iff.1 hj).1
    simp at this; omega
  obtain ⟨b, off, ha, hc⟩ := h.at_ (k := j) (by omega)
  simp at ha
  obtain ⟨rfl, rfl⟩ := ha
  rw [add_lit, hc j (by omega)]
  have e : bs.getD j 0 = bs[j]'(by omega) := by rw [List.getD, List.getElem?_eq_getElem (by omega)]; rfl
  rw [e]
  have e2 : ((bs.take pos).map bv)[j]? = some (bv (bs[j]'(by omega))) := by
    rw [List.getElem?_map, List.getElem?_take_of_lt hjp, List.getElem?_eq_getElem (by omega)]; rfl
  rw [e2] at hj
  exact hj

theorem cells_drop {w : World} {g : Nat} {bs : List Nat} {pos : Nat} {ao : Option Addr} (h : BRd w (some ⟨g, 0, none⟩) bs) (hao : ¬ bs.length = pos → ao = some ⟨g, pos, none⟩) :
    ∀ ad, ao = some ad → ∀ j u, ((bs.drop pos).map bv)[j]? = some u → w.cell? (ad.add j) = some u := by
  intro ad had j u hj
  have hjp : pos + j < bs.length := by
    have := (List.getElem?_eq_some_iff.1 hj).1
    simp at this; omega
  rw [hao (by omega)] at had
  obtain rfl := Option.some.inj had
  obtain ⟨b, off, ha, hc⟩ := h.at_ (k := pos + j) hjp
  simp at ha
  obtain ⟨rfl, rfl⟩ := ha
  have hcj := hc (pos + j) hjp
  rw [Nat.zero_add] at hcj
  rw [add_lit, hcj]
  have e : bs.getD (pos + j) 0 = bs[pos + j] := by rw [List.getD, List.getElem?_eq_getElem hjp]; rfl
  rw [e]
  have e2 : ((bs.drop pos).map bv)[j]? = some (bv bs[pos + j]) := by
    rw [List.getElem?_map, List.getElem?_drop, List.getElem?_eq_getElem hjp]; rfl
  rw [e2] at hj
  exact hj

theorem and_one_u8 (x : Nat) (hx : x < 256) : bits BinOp.and IntKind.u8 (x : Int) 1 = ((x % 2 : Nat) : Int) := by
  have h1 : (BitVec.ofInt 8 (x : Int)).toNat = x := by rw [BitVec.toNat_ofInt]; omega
  have h2 : (BitVec.ofInt 8 1).toNat = 1 := by decide
  show IntKind.u8.wrap ((BitVec.ofInt 8 (x : Int) &&& BitVec.ofInt 8 1).toNat : Int) = _
  rw [BitVec.toNat_and, h1, h2, Nat.and_one_is_mod, IntKind.wrap_u8]
  omega
theorem up_bit (up k q : Nat) (x : Int) (hq : 2 ^ k = q) (hx : x = ((up / q : Nat) : Int)) (hu : up < 256) : (bits BinOp.and IntKind.u8 x 1 == 1) = (up / 2 ^ k % 2 == 1) := by
  subst hx
  have hl : up / q < 256 := Nat.lt_of_le_of_lt (Nat.div_le_self _ _) hu
  rw [and_one_u8 _ hl, hq]
  by_cases h : up / q % 2 = 1
  · rw [h]; rfl
  · have : up / q % 2 = 0 := by omega
    rw [this]; rfl
theorem digit_at (D : Int) (d : Nat) (b X : Bool) (w : World) (hD : D = (d : Int)) (hX : b = X) (hd : d < 16) :
    Calls Try.prog 9 #[.int .u8 D, .bool b] w fun e w' => e = .returned (.int .u8 (hexC d X : Int)) ∧ w' = w := by
  subst hD hX
  exact digit_any d b w hd

def cur (bs : List Nat) (pos v up k : Nat) : List Value := (bs.take pos ++ (digs v up).take k).map bv

theorem cur_succ (bs : List Nat) (pos v up k : Nat) (h : k < 4) : cur bs pos v up (k + 1) = cur bs pos v up k ++ [bv (dg v up k)] := by
  unfold cur
  rcases (show k = 0 ∨ k = 1 ∨ k = 2 ∨ k = 3 by omega) with rfl | rfl | rfl | rfl <;> simp [digs]

/-- The whole buffer. -/
def tot (bs : List Nat) (pos v up : Nat) : List Nat := bs.take pos ++ (digs v up ++ bs.drop pos)
theorem tot_len (bs : List Nat) (pos v up : Nat) (h : pos ≤ bs.length) : (tot bs pos v up).length = bs.length + 4 := by
  unfold tot digs; simp; omega
theorem tot_map (bs : List Nat) (pos v up : Nat) : (tot bs pos v up).map bv = cur bs pos v up 4 ++ List.drop pos (List.map bv bs) := by
  unfold tot cur digs; simp
theorem tot_end (bs : List Nat) (v up : Nat) : (tot bs bs.length v up).map bv = cur bs bs.length v up 4 := by
  unfold tot cur digs; simp
theorem tot_at (bs : List Nat) (pos v up j : Nat) (h : pos ≤ bs.length) (hj : j < 4) : (tot bs pos v up).getD (pos + j) 0 = dg v up j := by
  have e : (bs.take pos).length = pos := by rw [List.length_take]; omega
  unfold tot
  rw [List.getD, List.getElem?_append_right (by omega), e, List.getElem?_append_left (by simp [digs]; omega)]
  rcases (show j = 0 ∨ j = 1 ∨ j = 2 ∨ j = 3 by omega) with rfl | rfl | rfl | rfl <;> simp [digs]
theorem hexC_ok (d : Nat) (up : Bool) (h : d < 16) : hexOk (hexC d up) ∧ hexV (hexC d up) = d := by
  unfold hexC
  by_cases h1 : d < 10
  · rw [if_pos h1]
    unfold hexOk hexV
    rw [if_pos (by omega)]
    omega
  · rw [if_neg h1]
    cases up
    · rw [if_neg (by decide)]
      unfold hexOk hexV
      rw [if_neg (by omega), if_neg (by omega)]
      omega
    · rw [if_pos rfl]
      unfold hexOk hexV
      rw [if_neg (by omega), if_pos (by omega)]
      omega
theorem tot_ok (bs : List Nat) (pos v up : Nat) (h : pos ≤ bs.length) : ∀ j, j < 4 → hexOk ((tot bs pos v up).getD (pos + j) 0) := by
  intro j hj; rw [tot_at bs pos v up j h hj]; exact (hexC_ok _ _ (by omega)).1
theorem tot_v (bs : List Nat) (pos v up : Nat) (h : pos ≤ bs.length) : ∀ j, j < 4 → hexV ((tot bs pos v up).getD (pos + j) 0) = v / 16 ^ (3 - j) % 16 := by
  intro j hj; rw [tot_at bs pos v up j h hj]; exact (hexC_ok _ _ (by omega)).2
theorem own_brd {w : World} {B g n cap : Nat} {L : List Nat} (h : w.ownsRow B 5 1 (.slice (some ⟨g, 0, none⟩) n cap) n (L.map bv)) : BRd w (some ⟨g, 0, none⟩) L := by
  have hl := h.1
  simp at hl
  refine .inr ⟨g, 0, rfl, fun j hj => ?_⟩
  rw [Nat.zero_add, h.cellAt j (by omega), List.getElem?_map, List.getElem?_eq_getElem hj, List.getD, List.getElem?_eq_getElem hj]
  rfl
theorem zzhex4_at (a : Option Addr) (L : List Nat) (N cap pos v : Nat) (w : World) (hr : BRd w a L) (hN : N = L.length)
    (hl : L.length ≤ 1048580) (hcap : L.length ≤ cap) (hpos : pos + 4 ≤ L.length) (hv : v < 65536) (hok : ∀ j, j < 4 → hexOk (L.getD (pos + j) 0)) (hd : ∀ j, j < 4 → hexV (L.getD (pos + j) 0) = v / 16 ^ (3 - j) % 16) :
    Calls Try.prog 10 #[.slice a N cap, .int .i64 pos] w fun e w' => e = .returned (.tuple #[.int .i32 v, .bool true, .int .i64 ((pos : Int) + 4)]) ∧ Below w.heap.size w w' := by
  subst hN
  exact zzhex4_any a L cap pos v w hr hl hcap hpos hv hok hd

set_option maxHeartbeats 2000000 in
theorem law_walk (v up : Nat) (a : Option Addr) (bs : List Nat) (cap pos : Nat) (w : World) (hv : v < 65536) (hu : up < 256) (hr : BRd w a bs) (hn : a = none → bs = []) (hl : bs.length ≤ 1048576) (hp : pos ≤ bs.length) :
    Calls Try.prog 3 #[.int .u16 v, .int .u8 up, .slice a bs.length cap, .int .i64 pos] w fun e w' => e = .returned (.bool true) ∧ Below w.heap.size w w' := by
  have HR : Hid (BRd w a bs) := hr
  have HN : Hid (a = none → bs = []) := hn
  clear hr hn
  have e1 : decide ((pos : Int) < 0) = false := decide_eq_false (by omega)
  have e2 : decide ((bs.length : Int) < (pos : Int)) = false := decide_eq_false (by omega)
  obtain ⟨i0, hi, hz0, hz1, hz2⟩ := info_parts Try.info5
  go_enter Try.func3, Try.ntmps3
  go_wp2_with fail
  refine (bytes_yes v up a bs.length cap pos _ hl).mono ?_
  rintro e w' ⟨rfl, hw⟩
  subst hw
  go_wp2_with fail
  refine (clone_any a bs cap _ HR.out HN.out hl).mono ?_
  rintro e w1 ⟨a1, rfl, hr1, hcase, hb1⟩
  have HR1 : Hid (BRd w1 a1 bs) := hr1
  have HB1 : Hid (Below w'.heap.size w' w1) := hb1
  have hsz1 := hb1.size
  clear hr1 hb1 HR HN
  rcases hcase with ⟨rfl, rfl⟩ | rfl
  · obtain rfl : pos = 0 := by simpa using hp
    clear HR1 hp hl e1 e2
    go_wp2_with (at_make; refine wpList_make_own _ rfl _ _ 23 rfl w1.heap.size 5 i0 (.int .u8 0) 1 Try.underlying23 hi hz0 hz1 .i64 .i64 _ 4 rfl rfl (by simp) ?n1 ?n2 ?n3 ?_)
    case n1 => rw [hz2]; omega
    case n2 => unfold maxLen; omega
    case n3 => omega
    intro w2 hown2 hgrow2
    have HB2 : Hid (Below w1.heap.size w1 w2) := (Below.refl _ _).grown hgrow2 (Nat.le_refl _) (by simp)
    obtain ⟨B, hB⟩ : ∃ B, B = w1.heap.size := ⟨_, rfl⟩
    rw [← hB] at hown2 hsz1 ⊢
    have HE : Hid (B = w1.heap.size) := hB
    have hown3' : w2.ownsRow B 5 1 (.slice (some ⟨B, 0, none⟩) 0 4) 0 (cur [] 0 v up 0) := by
      unfold cur; simpa using hown2
    clear hgrow2 hB hown2
    go_wp2
    go_loopw [9, 10] (fun s i wr => ∃ k : Nat, k ≤ 4 ∧ i = .int .i64 k ∧ s = .slice (some ⟨B, 0, none⟩) k 4 ∧ wr.ownsRow B 5 1 (.slice (some ⟨B, 0, none⟩) k 4) k (cur [] 0 v up k) ∧ Below B w1 wr) (fun _ i _ => 4 - (intOf i).toNat)
    case atStart => exact ⟨0, Nat.zero_le _, rfl, rfl, hown3', HE.out ▸ HB2.out⟩
    case round =>
      obtain ⟨k, hk, rfl, rfl, hown, hbel⟩ := hrel
      clear hown3'
      by_cases hlt : k < 4
      · rcases (show k = 0 ∨ k = 1 ∨ k = 2 ∨ k = 3 by omega) with rfl | rfl | rfl | rfl
        · go_wp2_with fail
          refine (digit_at _ (v / 16 ^ (3 - 0) % 16) _ (up / 2 ^ 0 % 2 == 1) _ (by rw [show 16 ^ (3 - 0) = 4096 from rfl]; omega) (up_bit up 0 1 _ rfl (by omega) hu) (by omega)).mono ?_
          rintro e wz ⟨rfl, hw⟩
          subst hw
          go_wp2_with (at_builtin; refine wpList_append_fits _ rfl (.tmp 62) (.tmp 66) 23 rfl B 5 i0 1 Try.underlying23 hi hz1 B 0 4 (cur [] 0 v up 0) rfl (hown.alloc _) ⟨wz.heap.size, 0, none⟩ 1 1 [bv (dg v up 0)] rfl rfl ?ncells0 (bv_one [dg v up 0]) ?nfits0 ?_)
          case ncells0 => simpa [bv, dg] using cell_one_new wz (bv (dg v up 0)) 5
          case nfits0 => omega
          intro w4 hown4 hgrow4
          have hB4 : Below B w1 w4 := (hbel.alloc (by have := hbel.size; have := HE.out; omega) _).grown hgrow4 (by have := hbel.size; have := HE.out; simp; omega) (by simp)
          have hown5 : w4.ownsRow B 5 1 (.slice (some ⟨B, 0, none⟩) 1 4) 1 (cur [] 0 v up 1) := by
            rw [cur_succ [] 0 v up 0 (by omega)]; exact hown4
          clear hown4 hgrow4 hown hbel
          go_wp2
          go_roundw
          case rel => exact ⟨1, by omega, by go_num, by first | rfl | simp, hown5, hB4⟩
          case measure => simp [intOf]
        · go_wp2_with fail
          refine (digit_at _ (v / 16 ^ (3 - 1) % 16) _ (up / 2 ^ 1 % 2 == 1) _ (by rw [show 16 ^ (3 - 1) = 256 from rfl]; omega) (up_bit up 1 2 _ rfl (by omega) hu) (by omega)).mono ?_
          rintro e wz ⟨rfl, hw⟩
          subst hw
          go_wp2_with (at_builtin; refine wpList_append_fits _ rfl (.tmp 62) (.tmp 66) 23 rfl B 5 i0 1 Try.underlying23 hi hz1 B 1 4 (cur [] 0 v up 1) rfl (hown.alloc _) ⟨wz.heap.size, 0, none⟩ 1 1 [bv (dg v up 1)] rfl rfl ?ncells1 (bv_one [dg v up 1]) ?nfits1 ?_)
          case ncells1 => simpa [bv, dg] using cell_one_new wz (bv (dg v up 1)) 5
          case nfits1 => omega
          intro w4 hown4 hgrow4
          have hB4 : Below B w1 w4 := (hbel.alloc (by have := hbel.size; have := HE.out; omega) _).grown hgrow4 (by have := hbel.size; have := HE.out; simp; omega) (by simp)
          have hown5 : w4.ownsRow B 5 1 (.slice (some ⟨B, 0, none⟩) 2 4) 2 (cur [] 0 v up 2) := by
            rw [cur_succ [] 0 v up 1 (by omega)]; exact hown4
          clear hown4 hgrow4 hown hbel
          go_wp2
          go_roundw
          case rel => exact ⟨2, by omega, by go_num, by first | rfl | simp, hown5, hB4⟩
          case measure => simp [intOf]
        · go_wp2_with fail
          refine (digit_at _ (v / 16 ^ (3 - 2) % 16) _ (up / 2 ^ 2 % 2 == 1) _ (by rw [show 16 ^ (3 - 2) = 16 from rfl]; omega) (up_bit up 2 4 _ rfl (by omega) hu) (by omega)).mono ?_
          rintro e wz ⟨rfl, hw⟩
          subst hw
          go_wp2_with (at_builtin; refine wpList_append_fits _ rfl (.tmp 62) (.tmp 66) 23 rfl B 5 i0 1 Try.underlying23 hi hz1 B 2 4 (cur [] 0 v up 2) rfl (hown.alloc _) ⟨wz.heap.size, 0, none⟩ 1 1 [bv (dg v up 2)] rfl rfl ?ncells2 (bv_one [dg v up 2]) ?nfits2 ?_)
          case ncells2 => simpa [bv, dg] using cell_one_new wz (bv (dg v up 2)) 5
          case nfits2 => omega
          intro w4 hown4 hgrow4
          have hB4 : Below B w1 w4 := (hbel.alloc (by have := hbel.size; have := HE.out; omega) _).grown hgrow4 (by have := hbel.size; have := HE.out; simp; omega) (by simp)
          have hown5 : w4.ownsRow B 5 1 (.slice (some ⟨B, 0, none⟩) 3 4) 3 (cur [] 0 v up 3) := by
            rw [cur_succ [] 0 v up 2 (by omega)]; exact hown4
          clear hown4 hgrow4 hown hbel
          go_wp2
          go_roundw
          case rel => exact ⟨3, by omega, by go_num, by first | rfl | simp, hown5, hB4⟩
          case measure => simp [intOf]
        · go_wp2_with fail
          refine (digit_at _ (v / 16 ^ (3 - 3) % 16) _ (up / 2 ^ 3 % 2 == 1) _ (by rw [show 16 ^ (3 - 3) = 1 from rfl]; omega) (up_bit up 3 8 _ rfl (by omega) hu) (by omega)).mono ?_
          rintro e wz ⟨rfl, hw⟩
          subst hw
          go_wp2_with (at_builtin; refine wpList_append_fits _ rfl (.tmp 62) (.tmp 66) 23 rfl B 5 i0 1 Try.underlying23 hi hz1 B 3 4 (cur [] 0 v up 3) rfl (hown.alloc _) ⟨wz.heap.size, 0, none⟩ 1 1 [bv (dg v up 3)] rfl rfl ?ncells3 (bv_one [dg v up 3]) ?nfits3 ?_)
          case ncells3 => simpa [bv, dg] using cell_one_new wz (bv (dg v up 3)) 5
          case nfits3 => omega
          intro w4 hown4 hgrow4
          have hB4 : Below B w1 w4 := (hbel.alloc (by have := hbel.size; have := HE.out; omega) _).grown hgrow4 (by have := hbel.size; have := HE.out; simp; omega) (by simp)
          have hown5 : w4.ownsRow B 5 1 (.slice (some ⟨B, 0, none⟩) 4 4) 4 (cur [] 0 v up 4) := by
            rw [cur_succ [] 0 v up 3 (by omega)]; exact hown4
          clear hown4 hgrow4 hown hbel
          go_wp2
          go_roundw
          case rel => exact ⟨4, by omega, by go_num, by first | rfl | simp, hown5, hB4⟩
          case measure => simp [intOf]
      · obtain rfl : k = 4 := by omega
        have howN : wr.ownsRow B 5 1 (.slice (some ⟨B, 0, none⟩) 4 4) 4 ((tot [] 0 v up).map bv) := by
          have := tot_end [] v up
          simp only [List.length_nil] at this
          rw [this]; exact hown
        clear hown
        go_wp2_with fail
        refine (zzhex4_at (some ⟨B, 0, none⟩) (tot [] 0 v up) _ _ 0 v _ (own_brd howN) rfl (by show 4 ≤ 1048580; omega) (Nat.le_refl 4) (Nat.le_refl 4) hv (tot_ok [] 0 v up (Nat.le_refl _)) (tot_v [] 0 v up (Nat.le_refl _))).mono ?_
        rintro e w6 ⟨rfl, hb6⟩
        have hfin : Below w'.heap.size w' w6 := tr (tr HB1.out (HE.out ▸ hbel)) hb6
        clear hb6
        go_wp2
        go_ret
        exact ⟨rfl, hfin⟩
  · go_wp2_with (at_make; refine wpList_make_own _ rfl _ _ 23 rfl w1.heap.size 5 i0 (.int .u8 0) 1 Try.underlying23 hi hz0 hz1 .i64 .i64 _ (bs.length + 4) rfl rfl (by omega) ?b1 ?b2 ?b3 ?_)
    case b1 => rw [hz2]; omega
    case b2 => unfold maxLen; omega
    case b3 => omega
    intro w2 hown2 hgrow2
    have HR2 : Hid (BRd w2 (some ⟨w'.heap.size, 0, none⟩) bs) := HR1.out.below ((Below.refl _ _).grown hgrow2 (Nat.le_refl _) (by simp))
    have HB2 : Hid (Below w1.heap.size w1 w2) := (Below.refl _ _).grown hgrow2 (Nat.le_refl _) (by simp)
    obtain ⟨B, hB⟩ : ∃ B, B = w1.heap.size := ⟨_, rfl⟩
    rw [← hB] at hown2 hsz1 ⊢
    have HE : Hid (B = w1.heap.size) := hB
    have HRB : Hid (BRd w1 (some ⟨w'.heap.size, 0, none⟩) bs) := HR1
    clear hgrow2 hB HR1
    go_wp2_with (at_builtin; refine wpList_append_fits_any _ rfl (.tmp 39) (.tmp 42) 23 rfl B 5 i0 1 Try.underlying23 hi hz1 B 0 (bs.length + 4) [] rfl hown2 _ pos _ ((bs.take pos).map bv) rfl ?c1 ?c2 ?c3 (bv_one _) ?c4 ?_)
    case c1 => simp; omega
    case c2 => intro h; first | (simp at h) | exact absurd h (by simp)
    case c3 => exact cells_take HR2.out hp
    case c4 => omega
    intro w3 hown3 hgrow3
    have HB3 : Hid (Below B w1 w3) := (HE.out ▸ HB2.out : Below B w1 w2).grown hgrow3 (by have := HB2.out.size; have := HE.out; omega) (by simp)
    have hown3' : w3.ownsRow B 5 1 (.slice (some ⟨B, 0, none⟩) (pos + 0) (bs.length + 4)) (pos + 0) (cur bs pos v up 0) := by
      unfold cur; simpa using hown3
    clear hown3 hgrow3 hown2 HR2
    go_wp2
    go_loopw [9, 10] (fun s i wr => ∃ k : Nat, k ≤ 4 ∧ i = .int .i64 k ∧ s = .slice (some ⟨B, 0, none⟩) (pos + k) (bs.length + 4) ∧ wr.ownsRow B 5 1 (.slice (some ⟨B, 0, none⟩) (pos + k) (bs.length + 4)) (pos + k) (cur bs pos v up k) ∧ Below B w1 wr) (fun _ i _ => 4 - (intOf i).toNat)
    case atStart => exact ⟨0, Nat.zero_le _, rfl, rfl, hown3', HB3.out⟩
    case round =>
      obtain ⟨k, hk, rfl, rfl, hown, hbel⟩ := hrel
      clear hown3' HB3
      by_cases hlt : k < 4
      · rcases (show k = 0 ∨ k = 1 ∨ k = 2 ∨ k = 3 by omega) with rfl | rfl | rfl | rfl
        · go_wp2_with fail
          refine (digit_at _ (v / 16 ^ (3 - 0) % 16) _ (up / 2 ^ 0 % 2 == 1) _ (by rw [show 16 ^ (3 - 0) = 4096 from rfl]; omega) (up_bit up 0 1 _ rfl (by omega) hu) (by omega)).mono ?_
          rintro e wz ⟨rfl, hw⟩
          subst hw
          go_wp2_with (at_builtin; refine wpList_append_fits _ rfl (.tmp 62) (.tmp 66) 23 rfl B 5 i0 1 Try.underlying23 hi hz1 B (pos + 0) (bs.length + 4) (cur bs pos v up 0) rfl (hown.alloc _) ⟨wz.heap.size, 0, none⟩ 1 1 [bv (dg v up 0)] rfl rfl ?cells0 (bv_one [dg v up 0]) ?fits0 ?_)
          case cells0 => simpa [bv, dg] using cell_one_new wz (bv (dg v up 0)) 5
          case fits0 => omega
          intro w4 hown4 hgrow4
          have hB4 : Below B w1 w4 := (hbel.alloc (by have := hbel.size; have := HE.out; omega) _).grown hgrow4 (by have := hbel.size; have := HE.out; simp; omega) (by simp)
          have hown5 : w4.ownsRow B 5 1 (.slice (some ⟨B, 0, none⟩) (pos + 1) (bs.length + 4)) (pos + 1) (cur bs pos v up 1) := by
            rw [cur_succ bs pos v up 0 (by omega)]; exact hown4
          clear hown4 hgrow4 hown hbel
          go_wp2
          go_roundw
          case rel => exact ⟨1, by omega, by go_num, by first | rfl | simp, hown5, hB4⟩
          case measure => simp [intOf]
        · go_wp2_with fail
          refine (digit_at _ (v / 16 ^ (3 - 1) % 16) _ (up / 2 ^ 1 % 2 == 1) _ (by rw [show 16 ^ (3 - 1) = 256 from rfl]; omega) (up_bit up 1 2 _ rfl (by omega) hu) (by omega)).mono ?_
          rintro e wz ⟨rfl, hw⟩
          subst hw
          go_wp2_with (at_builtin; refine wpList_append_fits _ rfl (.tmp 62) (.tmp 66) 23 rfl B 5 i0 1 Try.underlying23 hi hz1 B (pos + 1) (bs.length + 4) (cur bs pos v up 1) rfl (hown.alloc _) ⟨wz.heap.size, 0, none⟩ 1 1 [bv (dg v up 1)] rfl rfl ?cells1 (bv_one [dg v up 1]) ?fits1 ?_)
          case cells1 => simpa [bv, dg] using cell_one_new wz (bv (dg v up 1)) 5
          case fits1 => omega
          intro w4 hown4 hgrow4
          have hB4 : Below B w1 w4 := (hbel.alloc (by have := hbel.size; have := HE.out; omega) _).grown hgrow4 (by have := hbel.size; have := HE.out; simp; omega) (by simp)
          have hown5 : w4.ownsRow B 5 1 (.slice (some ⟨B, 0, none⟩) (pos + 2) (bs.length + 4)) (pos + 2) (cur bs pos v up 2) := by
            rw [cur_succ bs pos v up 1 (by omega)]; exact hown4
          clear hown4 hgrow4 hown hbel
          go_wp2
          go_roundw
          case rel => exact ⟨2, by omega, by go_num, by first | rfl | simp, hown5, hB4⟩
          case measure => simp [intOf]
        · go_wp2_with fail
          refine (digit_at _ (v / 16 ^ (3 - 2) % 16) _ (up / 2 ^ 2 % 2 == 1) _ (by rw [show 16 ^ (3 - 2) = 16 from rfl]; omega) (up_bit up 2 4 _ rfl (by omega) hu) (by omega)).mono ?_
          rintro e wz ⟨rfl, hw⟩
          subst hw
          go_wp2_with (at_builtin; refine wpList_append_fits _ rfl (.tmp 62) (.tmp 66) 23 rfl B 5 i0 1 Try.underlying23 hi hz1 B (pos + 2) (bs.length + 4) (cur bs pos v up 2) rfl (hown.alloc _) ⟨wz.heap.size, 0, none⟩ 1 1 [bv (dg v up 2)] rfl rfl ?cells2 (bv_one [dg v up 2]) ?fits2 ?_)
          case cells2 => simpa [bv, dg] using cell_one_new wz (bv (dg v up 2)) 5
          case fits2 => omega
          intro w4 hown4 hgrow4
          have hB4 : Below B w1 w4 := (hbel.alloc (by have := hbel.size; have := HE.out; omega) _).grown hgrow4 (by have := hbel.size; have := HE.out; simp; omega) (by simp)
          have hown5 : w4.ownsRow B 5 1 (.slice (some ⟨B, 0, none⟩) (pos + 3) (bs.length + 4)) (pos + 3) (cur bs pos v up 3) := by
            rw [cur_succ bs pos v up 2 (by omega)]; exact hown4
          clear hown4 hgrow4 hown hbel
          go_wp2
          go_roundw
          case rel => exact ⟨3, by omega, by go_num, by first | rfl | simp, hown5, hB4⟩
          case measure => simp [intOf]
        · go_wp2_with fail
          refine (digit_at _ (v / 16 ^ (3 - 3) % 16) _ (up / 2 ^ 3 % 2 == 1) _ (by rw [show 16 ^ (3 - 3) = 1 from rfl]; omega) (up_bit up 3 8 _ rfl (by omega) hu) (by omega)).mono ?_
          rintro e wz ⟨rfl, hw⟩
          subst hw
          go_wp2_with (at_builtin; refine wpList_append_fits _ rfl (.tmp 62) (.tmp 66) 23 rfl B 5 i0 1 Try.underlying23 hi hz1 B (pos + 3) (bs.length + 4) (cur bs pos v up 3) rfl (hown.alloc _) ⟨wz.heap.size, 0, none⟩ 1 1 [bv (dg v up 3)] rfl rfl ?cells3 (bv_one [dg v up 3]) ?fits3 ?_)
          case cells3 => simpa [bv, dg] using cell_one_new wz (bv (dg v up 3)) 5
          case fits3 => omega
          intro w4 hown4 hgrow4
          have hB4 : Below B w1 w4 := (hbel.alloc (by have := hbel.size; have := HE.out; omega) _).grown hgrow4 (by have := hbel.size; have := HE.out; simp; omega) (by simp)
          have hown5 : w4.ownsRow B 5 1 (.slice (some ⟨B, 0, none⟩) (pos + 4) (bs.length + 4)) (pos + 4) (cur bs pos v up 4) := by
            rw [cur_succ bs pos v up 3 (by omega)]; exact hown4
          clear hown4 hgrow4 hown hbel
          go_wp2
          go_roundw
          case rel => exact ⟨4, by omega, by go_num, by first | rfl | simp, hown5, hB4⟩
          case measure => simp [intOf]
      · obtain rfl : k = 4 := by omega
        have HR4 : Hid (BRd wr (some ⟨w'.heap.size, 0, none⟩) bs) := HRB.out.below (HE.out ▸ hbel)
        by_cases hbp : bs.length = pos
        · subst hbp
          have howA : wr.ownsRow B 5 1 (.slice (some ⟨B, 0, none⟩) (bs.length + 4) (bs.length + 4)) (bs.length + 4) ((tot bs bs.length v up).map bv) := by
            rw [tot_end]; exact hown
          clear hown e1 e2
          go_wp2_with fail
          refine (zzhex4_at (some ⟨B, 0, none⟩) (tot bs bs.length v up) _ _ bs.length v _ (own_brd howA) (tot_len _ _ _ _ (Nat.le_refl _)).symm (by rw [tot_len _ _ _ _ (Nat.le_refl _)]; omega) (by rw [tot_len _ _ _ _ (Nat.le_refl _)]; omega) (by rw [tot_len _ _ _ _ (Nat.le_refl _)]; omega) hv (tot_ok bs bs.length v up (Nat.le_refl _)) (tot_v bs bs.length v up (Nat.le_refl _))).mono ?_
          rintro e w6 ⟨rfl, hb6⟩
          have hfin : Below w'.heap.size w' w6 := tr (tr HB1.out (HE.out ▸ hbel)) hb6
          clear hb6
          go_wp2
          go_ret
          exact ⟨rfl, hfin⟩
        · have hlt2 : pos < bs.length := by omega
          go_wp2_with (at_builtin; refine wpList_append_fits _ rfl (.tmp 68) (.tmp 71) 23 rfl B 5 i0 1 Try.underlying23 hi hz1 B (pos + 4) (bs.length + 4) (cur bs pos v up 4) rfl hown ⟨w'.heap.size, pos, none⟩ (bs.length - pos) _ ((bs.drop pos).map bv) rfl ?d1 ?d3 (bv_one _) ?d4 ?_)
          case d1 => simp
          case d3 => exact cells_drop (ao := some ⟨w'.heap.size, pos, none⟩) HR4.out (fun _ => rfl) _ rfl
          case d4 => omega
          intro w5 hown5 hgrow5
          have hB5 : Below B w1 w5 := hbel.grown hgrow5 (by have := hbel.size; have := HE.out; omega) (by simp)
          have howB : w5.ownsRow B 5 1 (.slice (some ⟨B, 0, none⟩) (pos + 4 + (bs.length - pos)) (bs.length + 4)) (pos + 4 + (bs.length - pos)) ((tot bs pos v up).map bv) := by
            rw [tot_map]; exact hown5
          clear hown5 hgrow5 hown hbel
          go_wp2_with fail
          refine (zzhex4_at (some ⟨B, 0, none⟩) (tot bs pos v up) _ _ pos v _ (own_brd howB) (by rw [tot_len _ _ _ _ hp]; omega) (by rw [tot_len _ _ _ _ hp]; omega) (by rw [tot_len _ _ _ _ hp]; omega) (by rw [tot_len _ _ _ _ hp]; omega) hv (tot_ok bs pos v up hp) (tot_v bs pos v up hp)).mono ?_
          rintro e w6 ⟨rfl, hb6⟩
          have hfin : Below w'.heap.size w' w6 := tr (tr HB1.out (HE.out ▸ hB5)) hb6
          clear hb6
          go_wp2
          go_ret
          exact ⟨rfl, hfin⟩

set_option maxHeartbeats 400000 in
theorem law_big (v up : Int) (a : Option Addr) (n cap : Nat) (pos : Int) (w : World) (h : 1048576 < n) :
    Calls Try.prog 3 #[.int .u16 v, .int .u8 up, .slice a n cap, .int .i64 pos] w fun e w' => e = .returned (.bool true) ∧ Below w.heap.size w w' := by
  go_enter Try.func3, Try.ntmps3
  go_wp2_with fail
  refine (bytes_no v up a n cap pos _ h).mono ?_
  rintro e w' ⟨rfl, hw⟩
  subst hw
  go_wp2
  go_ret
  exact ⟨rfl, Below.refl _ _⟩

set_option maxHeartbeats 400000 in
theorem law_off (v up : Int) (a : Option Addr) (n cap : Nat) (pos : Int) (w : World) (h : n ≤ 1048576) (hp : pos < 0 ∨ n < pos) :
    Calls Try.prog 3 #[.int .u16 v, .int .u8 up, .slice a n cap, .int .i64 pos] w fun e w' => e = .returned (.bool true) ∧ Below w.heap.size w w' := by
  by_cases h0 : pos < 0
  · have e1 : decide (pos < 0) = true := decide_eq_true h0
    clear hp
    go_enter Try.func3, Try.ntmps3
    go_wp2_with fail
    refine (bytes_yes v up a n cap pos _ h).mono ?_
    rintro e w' ⟨rfl, hw⟩
    subst hw
    go_wp2
    go_ret
    exact ⟨rfl, Below.refl _ _⟩
  · have e1 : decide (pos < 0) = false := decide_eq_false h0
    have h2 : (n : Int) < pos := by omega
    have e2 : decide ((n : Int) < pos) = true := decide_eq_true h2
    clear hp
    go_enter Try.func3, Try.ntmps3
    go_wp2_with fail
    refine (bytes_yes v up a n cap pos _ h).mono ?_
    rintro e w' ⟨rfl, hw⟩
    subst hw
    go_wp2
    go_ret
    exact ⟨rfl, Below.refl _ _⟩
end Go.Proofs.Qxb6603107a
