import Derived.Test.Qxb6602919aBoot
import Derived.Test.Qxb6602919aHex
import Derived.Test.Qxb6602919aBootFacts
import Derived.ProofKit
import Derived.OpenShut
import Derived.ShutString
namespace Go.Proofs.Qxb6602919a.fnIsBootIDAcceptsEveryUUIDText
open Go.ChangeShapes Go.WideShapes Go.ChangeAt Go.RowKit
open Go.ChangeMaps (open_string shut_string)

theorem own : ownKnob Try.prog.godebug = none := by kernel_rfl

def hexB (x n : Nat) : ByteArray := ⟨(hexL x n).toArray⟩
theorem hexB_size (x n : Nat) : (hexB x n).size = n := by show (hexL x n).toArray.size = n; simp [hexL_length]
theorem hexB_any (x n : Nat) (w : World) (hx : x < 18446744073709551616) (hn0 : 1 ≤ n) (hn : n ≤ 16) :
    Calls Try.prog 12 #[.int .u64 x, .int .i64 n] w fun e w' => e = .returned (.string (hexB x n)) ∧ Below w.heap.size w w' := hex_any x n w hx hn0 hn

theorem hexB_at (a N : Int) (n : Nat) (w : World) (hN : N = (n : Int)) (h0 : 0 ≤ a) (h1 : a < 18446744073709551616) (hn0 : 1 ≤ n) (hn : n ≤ 16) :
    Calls Try.prog 12 #[.int .u64 a, .int .i64 N] w fun e w' => e = .returned (.string (hexB a.toNat n)) ∧ Below w.heap.size w w' := by
  have h := hexB_any a.toNat n w (by omega) hn0 hn
  rw [Int.toNat_of_nonneg h0] at h
  rw [hN]
  exact h

theorem tr {W a b : World} (h1 : Below W.heap.size W a) (h2 : Below a.heap.size a b) : Below W.heap.size W b := h1.trans (h2.mono h1.size)


theorem conv_bytes (u : ByteArray) (w : World) : ∃ cap C, (convert 9 26 (.string u)).run Try.prog w = .ok (.slice (some ⟨w.heap.size, 0, none⟩) u.size cap) (w.drew.alloc (.cells C 5 (C.size, C.size + 1))) ∧
    u.size ≤ C.size ∧ ∀ j, j < u.size → C[j]? = some (.int .u8 ((u.data.toList.getD j 0).toNat : Int)) := by
  refine ⟨_, _, run_bytes_of_string w 9 26 5 u Try.underlying9 Try.underlying26 Try.underlying5, ?_, fun j hj => ?_⟩
  · have e : u.data.size = u.size := rfl
    simp only [bytesRow, Array.size_append, Array.size_map, Array.size_replicate]
    omega
  · have hj' : j < u.data.size := hj
    rw [bytesRow_at u _ j hj']
    simp [List.getD, Array.getElem?_eq_getElem hj']

theorem hexN_ok (d : Nat) (h : d < 16) : (48 ≤ hexN d ∧ hexN d ≤ 57) ∨ (97 ≤ hexN d ∧ hexN d ≤ 102) := by
  unfold hexN; split <;> omega

theorem hexL_ok (x n j : Nat) (h : j < n) : (48 ≤ ((hexL x n).getD j 0).toNat ∧ ((hexL x n).getD j 0).toNat ≤ 57) ∨ (97 ≤ ((hexL x n).getD j 0).toNat ∧ ((hexL x n).getD j 0).toNat ≤ 102) := by
  have hj : j < (hexL x n).length := by rw [hexL_length]; exact h
  have e : (hexL x n).getD j 0 = (hexL x n)[j] := by simp [List.getD, hj]
  rw [e, hexL_at x n j hj]
  exact hexN_ok _ (by omega)

theorem getD_l (A B : List UInt8) (i : Nat) (h : i < A.length) : (A ++ B).getD i 0 = A.getD i 0 := by
  simp [List.getD, List.getElem?_append, h]
theorem getD_r (A B : List UInt8) (i : Nat) (h : A.length ≤ i) : (A ++ B).getD i 0 = B.getD (i - A.length) 0 := by
  simp [List.getD, List.getElem?_append, Nat.not_lt.2 h]

def uuidL (hi lo : Nat) : List UInt8 := hexL (hi / 4294967296) 8 ++ ([45] ++ (hexL (hi / 65536) 4 ++ ([45] ++ (hexL hi 4 ++ ([45] ++ (hexL (lo / 281474976710656) 4 ++ ([45] ++ hexL lo 12)))))))

theorem uuid_ok (hi lo i : Nat) (h : i < 36) : okAt i ((uuidL hi lo).getD i 0).toNat = true := by
  by_cases hy : i = 8 ∨ i = 13 ∨ i = 18 ∨ i = 23
  · rw [okAt_hy i _ hy]
    rcases hy with rfl | rfl | rfl | rfl <;> simp [uuidL, List.getD, hexL_length]
  · rw [okAt_hex i _ hy]
    unfold uuidL
    by_cases c1 : i < 8
    · rw [getD_l _ _ _ (by rw [hexL_length]; exact c1)]; exact hexL_ok _ _ _ c1
    rw [getD_r _ _ _ (by rw [hexL_length]; omega), getD_r _ _ _ (by rw [hexL_length]; simp; omega), hexL_length]
    by_cases c2 : i < 13
    · rw [getD_l _ _ _ (by rw [hexL_length]; simp; omega)]; exact hexL_ok _ _ _ (by simp; omega)
    rw [getD_r _ _ _ (by rw [hexL_length]; simp; omega), getD_r _ _ _ (by rw [hexL_length]; simp; omega), hexL_length]
    by_cases c3 : i < 18
    · rw [getD_l _ _ _ (by rw [hexL_length]; simp; omega)]; exact hexL_ok _ _ _ (by simp; omega)
    rw [getD_r _ _ _ (by rw [hexL_length]; simp; omega), getD_r _ _ _ (by rw [hexL_length]; simp; omega), hexL_length]
    by_cases c4 : i < 23
    · rw [getD_l _ _ _ (by rw [hexL_length]; simp; omega)]; exact hexL_ok _ _ _ (by simp; omega)
    rw [getD_r _ _ _ (by rw [hexL_length]; simp; omega), getD_r _ _ _ (by rw [hexL_length]; simp; omega), hexL_length]
    exact hexL_ok _ _ _ (by simp; omega)

theorem uuid_list (hi lo : Nat) (u : ByteArray) (hu : u = hexB (hi / 4294967296) 8 ++ { data := #[45] } ++ hexB (hi / 65536) 4 ++ { data := #[45] } ++ hexB hi 4 ++ { data := #[45] } ++ hexB (lo / 281474976710656) 4 ++ { data := #[45] } ++ hexB lo 12) :
    u.data.toList = uuidL hi lo := by
  subst hu
  simp [uuidL, hexB, ByteArray.data_append]
theorem uuid_len (hi lo : Nat) : (uuidL hi lo).length = 36 := by simp [uuidL, hexL_length]


theorem cut_list (u : ByteArray) (n : Nat) : (u.extract 0 n).data.toList = u.data.toList.take n := by
  simp [ByteArray.data_extract]

theorem no_cut (u : ByteArray) (h : u.size = 36) : bootB (u.extract 0 35).data.toList = false := by
  refine bootB_len ?_
  have h' : u.data.toList.length = 36 := h
  rw [cut_list, List.length_take, h']
  decide
theorem no_long (u : ByteArray) (h : u.size = 36) : bootB (u ++ { data := #[48] }).data.toList = false := by
  refine bootB_len ?_
  have h' : u.data.toList.length = 36 := h
  rw [ByteArray.data_append, Array.toList_append, List.length_append, h']
  decide
theorem no_shift (u : ByteArray) (hok : ∀ i, i < 36 → okAt i (u.data.toList.getD i 0).toNat = true) : bootB (({ data := #[48] } : ByteArray) ++ u.extract 0 35).data.toList = false := by
  refine bootB_no 8 (by omega) ?_
  have h7 := hok 7 (by omega)
  rw [okAt_hex 7 _ (by omega)] at h7
  have e : (({ data := #[48] } : ByteArray) ++ u.extract 0 35).data.toList.getD 8 0 = u.data.toList.getD 7 0 := by
    rw [ByteArray.data_append, Array.toList_append, getD_r _ _ _ (by simp), cut_list]
    simp [List.getD]
  rw [e, ← Bool.not_eq_true, okAt_hy 8 _ (by omega)]
  omega
theorem getD_set (l : List UInt8) (i j : Nat) (c : UInt8) (h : i < l.length) : (l.set i c).getD j 0 = if i = j then c else l.getD j 0 := by
  by_cases e : i = j
  · subst e; simp [List.getD, h]
  · simp [List.getD, e]
theorem no_hyphen (l : List UInt8) (h : l.length = 36) : bootB (l.set 8 48) = false := by
  refine bootB_no 8 (by omega) ?_
  rw [getD_set _ _ _ _ (by omega), if_pos rfl]
  decide
theorem no_upper (l : List UInt8) (i : Nat) (h : l.length = 36) (hi : i < 36) (c : UInt8) (hc : 65 ≤ c.toNat ∧ c.toNat ≤ 70) : bootB (l.set i c) = false := by
  refine bootB_no i hi ?_
  rw [getD_set _ _ _ _ (by omega), if_pos rfl, ← Bool.not_eq_true]
  by_cases hy : i = 8 ∨ i = 13 ∨ i = 18 ∨ i = 23
  · rw [okAt_hy i _ hy]; omega
  · rw [okAt_hex i _ hy]; omega


theorem back (W : World) (B cap n : Nat) (l : List UInt8) (hl : l.length = n) (hc : ∀ j, j < n → W.cell? ⟨B, j, none⟩ = some (.int .u8 ((l.getD j 0).toNat : Int))) :
    (convert 26 9 (.slice (some ⟨B, 0, none⟩) n cap)).run Try.prog W = .ok (.string ⟨l.toArray⟩) W := by
  subst hl
  refine run_convert_bytes_back W 26 9 5 ⟨B, 0, none⟩ cap l Try.underlying26 Try.underlying5 Try.underlying9 (fun j hj => ?_)
  have e0 : (⟨B, 0, none⟩ : Addr).add j = ⟨B, j, none⟩ := by unfold Addr.add; split <;> simp_all
  rw [e0, hc j hj]
  simp [List.getD, hj]

theorem set_back (w : World) (C : Array Value) (l : List UInt8) (m : Nat × Nat) (i : Nat) (c : UInt8) (hi : i < l.length)
    (hC : ∀ j, j < l.length → C[j]? = some (.int .u8 ((l.getD j 0).toNat : Int))) (cap : Nat) (v : Int) (hv : v = (c.toNat : Int)) :
    (convert 26 9 (.slice (some ⟨w.heap.size, 0, none⟩) l.length cap)).run Try.prog (((w.alloc (.cells C 5 m)).setCell ⟨w.heap.size, i, none⟩ (.int .u8 v)).drew) =
      .ok (.string ⟨(l.set i c).toArray⟩) (((w.alloc (.cells C 5 m)).setCell ⟨w.heap.size, i, none⟩ (.int .u8 v)).drew) := by
  subst hv
  have hcell : ∀ j, j < l.length → (w.alloc (.cells C 5 m)).cell? ⟨w.heap.size, j, none⟩ = some (.int .u8 ((l.getD j 0).toNat : Int)) := fun j hj => by
    rw [World.cell?_alloc_mark]; exact hC j hj
  refine back _ _ _ _ _ (by simp) (fun j hj => ?_)
  show ((w.alloc (.cells C 5 m)).setCell ⟨w.heap.size, i, none⟩ (.int .u8 (c.toNat : Int))).cell? ⟨w.heap.size, j, none⟩ = _
  rw [getD_set _ _ _ _ hi]
  by_cases e : i = j
  · subst e
    rw [if_pos rfl]
    exact World.cell?_setCell_same _ _ _ (hcell i hi)
  · rw [if_neg e, World.cell?_setCell_other _ _ _ _ (by intro h; injection h with _ h2; exact e h2)]
    exact hcell j hj

set_option maxHeartbeats 400000 in
theorem walk (hi lo : Nat) (h0 : hi < 18446744073709551616) (h1 : lo < 18446744073709551616) (w : World) :
    Calls Try.prog 4 #[.int .u64 hi, .int .u64 lo] w fun e w' => e = .returned (.bool true) ∧ Below w.heap.size w w' := by
  have z1 := hexB_size (hi / 4294967296) 8
  have z2 := hexB_size (hi / 65536) 4
  have z3 := hexB_size hi 4
  have z4 := hexB_size (lo / 281474976710656) 4
  have z5 := hexB_size lo 12
  go_enter Try.func4, Try.ntmps4
  go_wp2_with fail
  refine (hexB_at _ _ 8 _ rfl (by omega) (by omega) (by omega) (by omega)).mono ?_
  rintro e w1 ⟨rfl, hb1⟩
  go_wp2_with fail
  refine (hexB_at _ _ 4 _ rfl (by omega) (by omega) (by omega) (by omega)).mono ?_
  rintro e w2 ⟨rfl, hb2⟩
  go_wp2_with fail
  refine (hexB_at _ _ 4 _ rfl (by omega) (by omega) (by omega) (by omega)).mono ?_
  rintro e w3 ⟨rfl, hb3⟩
  go_wp2_with fail
  refine (hexB_at _ _ 4 _ rfl (by omega) (by omega) (by omega) (by omega)).mono ?_
  rintro e w4 ⟨rfl, hb4⟩
  go_wp2_with fail
  refine (hexB_at _ _ 12 _ rfl (by omega) (by omega) (by omega) (by omega)).mono ?_
  rintro e w5 ⟨rfl, hb5⟩
  go_wp2_with fail
  obtain ⟨u, hu⟩ : ∃ u : ByteArray, u = hexB (hi / 4294967296) 8 ++ { data := #[45] } ++ hexB (hi / 65536) 4 ++ { data := #[45] } ++ hexB hi 4 ++ { data := #[45] } ++ hexB (lo / 281474976710656) 4 ++ { data := #[45] } ++ hexB lo 12 := ⟨_, rfl⟩
  rw [← hu]
  have hl := uuid_list hi lo u hu
  have hlen : u.data.toList.length = 36 := by rw [hl]; exact uuid_len hi lo
  have hok : ∀ i, i < 36 → okAt i (u.data.toList.getD i 0).toNat = true := by rw [hl]; exact uuid_ok hi lo
  have hsz : u.size = 36 := by rw [← hlen]; simp
  have HOK : Hid (∀ i, i < 36 → okAt i (u.data.toList.getD i 0).toNat = true) := hok
  have HL : Hid (u.data.toList.length = 36) := hlen
  have HB : Hid (Below w.heap.size w w5) := tr (tr (tr (tr hb1 hb2) hb3) hb4) hb5
  clear hl hok hu z1 z2 z3 z4 z5 hb1 hb2 hb3 hb4 hb5
  refine (zzboot_is u _ true (by omega) (bootB_all hlen HOK.out)).mono ?_
  rintro e w6 ⟨rfl, hb6⟩
  clear hlen
  go_wp2_with fail
  refine (zzboot_is _ _ false (by rw [ByteArray.size_extract]; omega) (no_cut u hsz)).mono ?_
  rintro e w7 ⟨rfl, hb7⟩
  go_wp2_with fail
  refine (zzboot_is _ _ false (by rw [ByteArray.size_append, hsz]; decide) (no_long u hsz)).mono ?_
  rintro e w8 ⟨rfl, hb8⟩
  go_wp2_with fail
  refine (zzboot_is _ _ false (by rw [ByteArray.size_append, ByteArray.size_extract, hsz]; decide) (no_shift u HOK.out)).mono ?_
  rintro e w9 ⟨rfl, hb9⟩
  have HB9 : Hid (Below w.heap.size w w9) := tr (tr (tr (tr HB.out hb6) hb7) hb8) hb9
  clear HB hb6 hb7 hb8 hb9
  obtain ⟨cap, C, hconv, hCs, hC⟩ := conv_bytes u w9
  have hlen := HL.out
  have hc8 := hC 8 (by omega)
  have hcell : (w9.alloc (.cells C 5 (C.size, C.size + 1))).cell? ⟨w9.heap.size, 8, none⟩ = some (.int .u8 ((u.data.toList.getD 8 0).toNat : Int)) := by
    rw [World.cell?_alloc_mark]; exact hC 8 (by omega)
  have hfr : (w9.alloc (.cells C 5 (C.size, C.size + 1))).frozen? ⟨w9.heap.size, 8, none⟩ = false := by
    rw [World.frozen?_alloc_mark]; simp; omega
  have hback := set_back w9 C u.data.toList (C.size, C.size + 1) 8 48 (by rw [hlen]; omega) (by rw [hlen, ← hsz]; exact hC) cap 48 rfl
  rw [hlen] at hback
  clear hC hc8 hlen
  go_wp2_with fail
  have hB10 : Below w.heap.size w ((w9.alloc (.cells C 5 (C.size, C.size + 1))).setCell ⟨w9.heap.size, 8, none⟩ (.int .u8 48)).drew :=
    ((HB9.out.alloc HB9.out.size _).setCell HB9.out.size _).drew
  obtain ⟨w10, hw10⟩ : ∃ W, W = ((w9.alloc (.cells C 5 (C.size, C.size + 1))).setCell ⟨w9.heap.size, 8, none⟩ (.int .u8 48)).drew := ⟨_, rfl⟩
  rw [← hw10] at hB10 ⊢
  have HB10 : Hid (Below w.heap.size w w10) := hB10
  clear hB10 hw10 hback hfr hcell hCs hconv HB9
  refine (zzboot_is _ _ false (by show (u.data.toList.set 8 48).toArray.size ≤ _; simp; omega) (no_hyphen _ HL.out)).mono ?_
  rintro e w11 ⟨rfl, hb11⟩
  have HB11 : Hid (Below w.heap.size w w11) := tr HB10.out hb11
  clear HB10 hb11
  obtain ⟨cap', C', hconv, hCs, hC⟩ := conv_bytes u w11
  have HC : Hid (∀ j, j < u.size → C'[j]? = some (.int .u8 ((u.data.toList.getD j 0).toNat : Int))) := hC
  clear hC
  go_wp2_with fail
  clear hconv
  have hB12 : Below w.heap.size w (w11.alloc (.cells C' 5 (C'.size, C'.size + 1))).drew := (HB11.out.alloc HB11.out.size _).drew
  have HB12 : Hid (Below w.heap.size w (w11.alloc (.cells C' 5 (C'.size, C'.size + 1))).drew) := hB12
  clear hB12
  go_loop [8] (fun i => ∃ k : Nat, k ≤ 36 ∧ i = .int .i64 k) (fun i => 36 - (intOf i).toNat)
  case atStart => exact ⟨0, Nat.zero_le _, rfl⟩
  case round =>
    obtain ⟨k, hk, rfl⟩ := hrel
    by_cases hlt : k < 36
    · obtain ⟨c, hc⟩ : ∃ c : UInt8, c = u.data.toList.getD k 0 := ⟨_, rfl⟩
      have hcell : (w11.alloc (.cells C' 5 (C'.size, C'.size + 1))).cell? ⟨w11.heap.size, k, none⟩ = some (.int .u8 (c.toNat : Int)) := by
        rw [World.cell?_alloc_mark, hc]; exact HC.out k (by omega)
      have hfr : (w11.alloc (.cells C' 5 (C'.size, C'.size + 1))).frozen? ⟨w11.heap.size, k, none⟩ = false := by
        rw [World.frozen?_alloc_mark]; simp; omega
      clear hc
      by_cases hup : 97 ≤ c.toNat ∧ c.toNat ≤ 102
      · obtain ⟨u1, u2⟩ := hup
        have hlen := HL.out
        have hv : ((UInt8.ofNat (c.toNat - 32)).toNat) = c.toNat - 32 := by
          rw [UInt8.toNat_ofNat']; exact Nat.mod_eq_of_lt (by omega)
        have hback := set_back w11 C' u.data.toList (C'.size, C'.size + 1) k (UInt8.ofNat (c.toNat - 32)) (by rw [hlen]; omega) (by rw [hlen, ← hsz]; exact HC.out) cap' ((c.toNat : Int) - 97 + 65) (by rw [hv]; omega)
        rw [hlen] at hback
        clear hlen hv
        have e1 : decide ((c.toNat : Int) ≤ 102) = true := decide_eq_true (by omega)
        have e2 : decide ((97 : Int) ≤ (c.toNat : Int)) = true := decide_eq_true (by omega)
        go_wp2_with fail
        refine (zzboot_is _ _ false (by show (u.data.toList.set k (UInt8.ofNat (c.toNat - 32))).toArray.size ≤ _; simp; omega) (no_upper _ k HL.out hlt _ (by rw [UInt8.toNat_ofNat', Nat.mod_eq_of_lt (by omega)]; omega))).mono ?_
        rintro e w13 ⟨rfl, hb13⟩
        have HB13 : Hid (Below w.heap.size w w13) := tr ((HB11.out.alloc HB11.out.size _).setCell (p := ⟨w11.heap.size, k, none⟩) HB11.out.size _).drew hb13
        clear hb13 hback
        go_wp2
        go_ret
        exact ⟨rfl, HB13.out⟩
      · clear HC
        by_cases hlo : 97 ≤ c.toNat
        · have e1 : decide ((c.toNat : Int) ≤ 102) = false := decide_eq_false (by omega)
          have hgt : 102 < c.toNat := by omega
          clear hup
          go_wp2
          go_round
          case rel => exact ⟨k + 1, by omega, by go_num⟩
          case measure => simp [intOf]; omega
        · have e1 : decide ((97 : Int) ≤ (c.toNat : Int)) = false := decide_eq_false (by omega)
          clear hup
          go_wp2
          go_round
          case rel => exact ⟨k + 1, by omega, by go_num⟩
          case measure => simp [intOf]; omega
    · clear HC
      go_wp2
      go_ret
      exact ⟨rfl, HB12.out⟩

set_option maxRecDepth 100000 in
theorem lifted (os : Os) (started : os.Started) (H : Type) (enc : TypeId × Value → H) :
    ReturnsInHanded {} Try.checked os 4 .any (Rows.fnIsBootIDAcceptsEveryUUIDTextSpec.pre6 enc Try.prog Try.f4 Rows.fnIsBootIDAcceptsEveryUUIDTextRow.domain false) (Rows.fnIsBootIDAcceptsEveryUUIDTextSpec.post enc Try.prog Try.f4 false true false false) := by
  refine returnsInHanded_of_change (C := Try.checked) own started (by kernel_rfl) Try.func4
    (ChangeSpec.witness6 (enc := enc) (C := Try.checked) false ⟨#[], #[.int .u64 0, .int .u64 0], []⟩ 8 (by kernel_rfl) (by kernel_rfl) (by kernel_rfl) (by kernel_rfl)) ?_
  intro W base args ds gs before hval0 hW hcnd _
  have hval : ∀ (j : Nat) t v, Try.f4.params[j]? = some t → args[j]? = some v → Value.okWide Try.prog W .any base t v := hval0
  have hW' := hW
  obtain ⟨p, q, hA0, hV, rfl, hfz, hnd⟩ := hW
  have hA : DataW.TrodAll enc Try.prog W 0 (fun _ => true) true Try.f4.params.toList args.toList ds p := hA0
  rw [Try.params4] at hA hval
  obtain ⟨v0, vs0, d0, ds0, p0, q0, hargs, rfl, rfl, h0, r0⟩ := trodAll_cons hA
  obtain ⟨v1, vs1, d1, ds1, p1, q1, rfl, rfl, rfl, h1, r1⟩ := trodAll_cons r0
  obtain ⟨rfl, rfl, rfl⟩ := trodAll_nil r1
  obtain rfl : args = #[v0, v1] := by cases args; simp_all
  obtain ⟨rfl, rfl⟩ := trodVars_none hV
  obtain ⟨a0, rfl, rfl, rfl, w0⟩ := open_int Try.underlying23 (hval 0 23 v0 rfl rfl) h0
  obtain ⟨a1, rfl, rfl, rfl, w1⟩ := open_int Try.underlying23 (hval 1 23 v1 rfl rfl) h1
  clear hA0 hval0
  have b0 := bounds_u64 w0
  have b1 := bounds_u64 w1
  have hwk := walk a0.toNat a1.toNat (by omega) (by omega) W
  rw [Int.toNat_of_nonneg b0.1, Int.toNat_of_nonneg b1.1] at hwk
  refine hwk.mono fun e W' ⟨he, bel⟩ => ?_
  subst he
  exact ⟨_, rfl, _, _, _, [], _, [], hW', trodAll_mk1 (shut_bool Try.underlying4 _), (trodAll_cons_mk (shut_int Try.underlying23 w0) (trodAll_cons_mk (shut_int Try.underlying23 w1) trodAll_mk0)), rfl, bel.frame _, fun h => by cases h⟩

theorem over : Rows.fnIsBootIDAcceptsEveryUUIDTextRow.holds Try.pinned (OpenSpec.ofChange Rows.fnIsBootIDAcceptsEveryUUIDTextSpec) :=
  OpenClaim.holds_of_wide 4 Try.f4 rfl rfl rfl rfl rfl rfl rfl ⟨rfl, rfl, rfl, rfl, rfl⟩ rfl rfl rfl rfl rfl c_named Try.func4 c_closed c_inst c_wrap
    (fun os started H enc _ => lifted os started H enc)

theorem proved : Rows.FnIsBootIDAcceptsEveryUUIDTextSaid :=
  over
#print axioms proved
end Go.Proofs.Qxb6602919a.fnIsBootIDAcceptsEveryUUIDText
