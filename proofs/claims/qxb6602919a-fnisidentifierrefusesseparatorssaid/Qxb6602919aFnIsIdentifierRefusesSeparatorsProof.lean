import Derived.Test.Qxb6602919aIdent
import Derived.Test.Qxb6602919aIdentFacts
import Derived.ProofKit
import Derived.OpenShut
import Derived.ShutString
namespace Go.Proofs.Qxb6602919a.fnIsIdentifierRefusesSeparators
open Go.ChangeShapes Go.WideShapes Go.ChangeAt Go.RowKit
open Go.ChangeMaps (open_string shut_string)
open Go.Proofs.Qxb6602919a.Ident

theorem own : ownKnob Try.prog.godebug = none := by kernel_rfl

theorem tr {W a b : World} (h1 : Below W.heap.size W a) (h2 : Below a.heap.size a b) : Below W.heap.size W b := h1.trans (h2.mono h1.size)

theorem mid_list (a b : ByteArray) (c : UInt8) : (a ++ ({ data := #[c] } : ByteArray) ++ b).data.toList = a.data.toList ++ c :: b.data.toList := by
  simp [ByteArray.data_append]
theorem ident_mid (a b : ByteArray) (c : UInt8) : identB (a ++ ({ data := #[c] } : ByteArray) ++ b).data.toList = (okC c.toNat && (allC a.data.toList && allC b.data.toList)) := by
  rw [mid_list]
  unfold identB allC
  rw [List.all_append, List.all_cons]
  cases a.data.toList <;> cases b.data.toList <;> cases okC c.toNat <;> simp
theorem mid_size (a b : ByteArray) (c : UInt8) (ha : a.size ≤ 524288) (hb : b.size ≤ 524288) : (a ++ ({ data := #[c] } : ByteArray) ++ b).size ≤ 9000000000000000000 := by
  rw [ByteArray.size_append, ByteArray.size_append]
  show a.size + 1 + b.size ≤ _
  omega
theorem ident_sep (a b : ByteArray) (c : UInt8) (h : okC c.toNat = false) : identB (a ++ ({ data := #[c] } : ByteArray) ++ b).data.toList = false := by
  rw [ident_mid, h]; rfl
theorem ident_own (a : ByteArray) (h : 0 < a.size) : identB a.data.toList = allC a.data.toList := by
  unfold identB
  rw [← ByteArray.toList_eq, emp_false a h]; rfl
theorem all_empty (a : ByteArray) (h : a.size = 0) : allC a.data.toList = true := by
  have : a.data.toList = [] := List.eq_nil_of_length_eq_zero h
  rw [this]; rfl

theorem tail45 (a b : ByteArray) {P : Bool} (h : (allC a.data.toList && allC b.data.toList) = P) : identB (a ++ ({ data := #[45] } : ByteArray) ++ b).data.toList = P := by
  rw [ident_mid, h]; rfl
theorem tailc (a b : ByteArray) (c : UInt8) {P Q : Bool} (h : (allC a.data.toList && allC b.data.toList) = P) (hq : okC c.toNat = Q) : identB (a ++ ({ data := #[c] } : ByteArray) ++ b).data.toList = (Q && P) := by
  rw [ident_mid, h, hq]
theorem st3 (a : ByteArray) : (a.toList.isEmpty = true ∧ allC a.data.toList = true) ∨ (a.toList.isEmpty = false ∧ identB a.data.toList = true ∧ allC a.data.toList = true) ∨ (a.toList.isEmpty = false ∧ identB a.data.toList = false ∧ allC a.data.toList = false) := by
  by_cases h : a.size = 0
  · exact .inl ⟨emp_true a h, all_empty a h⟩
  · rw [ident_own a (by omega), emp_false a (by omega)]
    cases allC a.data.toList <;> simp

set_option maxHeartbeats 400000 in
theorem walk_big (a b : ByteArray) (c : Int) (w0 : a.size ≤ maxLen) (w1 : b.size ≤ maxLen) (w : World) (h : 1048576 < a.size + b.size) :
    Calls Try.prog 6 #[.string a, .string b, .int .u8 c] w fun e w' => e = .returned (.bool true) ∧ Below w.heap.size w w' := by
  go_enter Try.func6, Try.ntmps6
  go_wp2_with fail
  refine (bytes_no a b c _ w0 w1 h).mono ?_
  rintro e w' ⟨rfl, rfl⟩
  go_wp2
  go_ret
  exact ⟨rfl, Below.refl _ _⟩

set_option maxHeartbeats 400000 in
theorem walk_half (a b : ByteArray) (c : Int) (w : World) (h : a.size + b.size ≤ 1048576) (h2 : 524288 < a.size ∨ 524288 < b.size) :
    Calls Try.prog 6 #[.string a, .string b, .int .u8 c] w fun e w' => e = .returned (.bool true) ∧ Below w.heap.size w w' := by
  by_cases h3 : 524288 < a.size
  · have e1 : decide ((524288 : Int) < (a.size : Int)) = true := decide_eq_true (by omega)
    clear h2
    go_enter Try.func6, Try.ntmps6
    go_wp2_with fail
    refine (bytes_yes a b c _ h).mono ?_
    rintro e w' ⟨rfl, rfl⟩
    go_wp2
    go_ret
    exact ⟨rfl, Below.refl _ _⟩
  · have e1 : decide ((524288 : Int) < (a.size : Int)) = false := decide_eq_false (by omega)
    have h4 : 524288 < b.size := by omega
    clear h2
    go_enter Try.func6, Try.ntmps6
    go_wp2_with fail
    refine (bytes_yes a b c _ h).mono ?_
    rintro e w' ⟨rfl, rfl⟩
    go_wp2
    go_ret
    exact ⟨rfl, Below.refl _ _⟩

theorem one_byte (W : World) (c : UInt8) : (convert 26 9 (.slice (some ⟨W.heap.size, 0, none⟩) 1 1)).run Try.prog (W.alloc (.cells #[.int .u8 (c.toNat : Int)] 5)) = .ok (.string ⟨#[c]⟩) (W.alloc (.cells #[.int .u8 (c.toNat : Int)] 5)) := by
  refine run_convert_bytes_back _ 26 9 5 ⟨W.heap.size, 0, none⟩ 1 [c] Try.underlying26 Try.underlying5 Try.underlying9 (fun j hj => ?_)
  have hj0 : j = 0 := by simp at hj; omega
  subst hj0
  have e0 : (⟨W.heap.size, 0, none⟩ : Addr).add 0 = ⟨W.heap.size, 0, none⟩ := rfl
  rw [e0, World.cell?_alloc_mark]
  rfl

theorem alpha_is (c : Nat) (b : Bool) (w : World) (hc : c < 256) (h : okC c = b) : Calls Try.prog 16 #[.int .u8 c] w fun e w' => e = .returned (.bool b) ∧ w' = w := h ▸ alpha_any c w (by omega)

set_option maxHeartbeats 4000000 in
theorem walk_small (a b : ByteArray) (c : UInt8) (Q : Bool) (hq : okC c.toNat = Q) (w : World) (h1 : a.size ≤ 524288) (h2 : b.size ≤ 524288) :
    Calls Try.prog 6 #[.string a, .string b, .int .u8 (c.toNat : Int)] w fun e w' => e = .returned (.bool true) ∧ Below w.heap.size w w' := by
  have HQ : Hid (okC c.toNat = Q) := hq
  clear hq
  have e1 : decide ((524288 : Int) < (a.size : Int)) = false := decide_eq_false (by omega)
  have e2 : decide ((524288 : Int) < (b.size : Int)) = false := decide_eq_false (by omega)
  go_enter Try.func6, Try.ntmps6
  go_wp2_with fail
  refine (bytes_yes a b _ _ (by omega)).mono ?_
  rintro e w' ⟨rfl, rfl⟩
  go_wp2_with fail
  refine (zzident_is _ _ false (mid_size a b 46 h1 h2) (ident_sep a b 46 (by decide))).mono ?_
  rintro e w1 ⟨rfl, hb1⟩
  go_wp2_with fail
  refine (zzident_is _ _ false (mid_size a b 43 h1 h2) (ident_sep a b 43 (by decide))).mono ?_
  rintro e w2 ⟨rfl, hb2⟩
  go_wp2_with fail
  refine (zzident_is _ _ false (mid_size a b 32 h1 h2) (ident_sep a b 32 (by decide))).mono ?_
  rintro e w3 ⟨rfl, hb3⟩
  go_wp2_with fail
  refine (zzident_is _ _ false (mid_size a b 95 h1 h2) (ident_sep a b 95 (by decide))).mono ?_
  rintro e w4 ⟨rfl, hb4⟩
  have HB4 : Hid (Below w'.heap.size w' w4) := tr (tr (tr hb1 hb2) hb3) hb4
  clear hb1 hb2 hb3 hb4
  rcases st3 a with ⟨ea, ha⟩ | ⟨ea, ia, ha⟩ | ⟨ea, ia, ha⟩
  · rcases st3 b with ⟨eb, hb⟩ | ⟨eb, ib, hb⟩ | ⟨eb, ib, hb⟩
    · have HP : Hid ((allC a.data.toList && allC b.data.toList) = true) := by rw [ha, hb]; rfl
      clear ha hb
      go_wp2_with fail
      refine (zzident_is _ _ _ (mid_size a b 45 h1 h2) (tail45 a b HP.out)).mono ?_
      rintro e w7 ⟨rfl, hb7⟩
      have HB7 : Hid (Below w'.heap.size w' w7) := tr HB4.out hb7
      clear hb7 HB4
      have hone := one_byte w7 c
      have hB8 : Below w'.heap.size w' (w7.alloc (.cells #[.int .u8 (c.toNat : Int)] 5)) := HB7.out.alloc HB7.out.size _
      go_wp2_with fail
      clear hone
      refine (zzident_is _ _ _ (mid_size a b c h1 h2) (tailc a b c HP.out HQ.out)).mono ?_
      rintro e w9 ⟨rfl, hb9⟩
      have HB9 : Hid (Below w'.heap.size w' w9) := tr hB8 hb9
      clear hb9 hB8 HB7 HP
      go_wp2_with fail
      refine (alpha_is _ _ w9 (UInt8.toNat_lt c) HQ.out).mono ?_
      rintro e w10 ⟨rfl, rfl⟩
      go_wp2
      all_goals (go_ret; exact ⟨rfl, HB9.out⟩)
    · have HP : Hid ((allC a.data.toList && allC b.data.toList) = true) := by rw [ha, hb]; rfl
      clear ha hb
      go_wp2_with fail
      refine (zzident_is _ _ _ (by omega) ib).mono ?_
      rintro e w6 ⟨rfl, hb6⟩
      have HB6 : Hid (Below w'.heap.size w' w6) := tr HB4.out hb6
      clear hb6 HB4 ib
      go_wp2_with fail
      refine (zzident_is _ _ _ (mid_size a b 45 h1 h2) (tail45 a b HP.out)).mono ?_
      rintro e w7 ⟨rfl, hb7⟩
      have HB7 : Hid (Below w'.heap.size w' w7) := tr HB6.out hb7
      clear hb7 HB6
      have hone := one_byte w7 c
      have hB8 : Below w'.heap.size w' (w7.alloc (.cells #[.int .u8 (c.toNat : Int)] 5)) := HB7.out.alloc HB7.out.size _
      go_wp2_with fail
      clear hone
      refine (zzident_is _ _ _ (mid_size a b c h1 h2) (tailc a b c HP.out HQ.out)).mono ?_
      rintro e w9 ⟨rfl, hb9⟩
      have HB9 : Hid (Below w'.heap.size w' w9) := tr hB8 hb9
      clear hb9 hB8 HB7 HP
      go_wp2_with fail
      refine (alpha_is _ _ w9 (UInt8.toNat_lt c) HQ.out).mono ?_
      rintro e w10 ⟨rfl, rfl⟩
      go_wp2
      all_goals (go_ret; exact ⟨rfl, HB9.out⟩)
    · have HP : Hid ((allC a.data.toList && allC b.data.toList) = false) := by rw [ha, hb]; rfl
      clear ha hb
      go_wp2_with fail
      refine (zzident_is _ _ _ (by omega) ib).mono ?_
      rintro e w6 ⟨rfl, hb6⟩
      have HB6 : Hid (Below w'.heap.size w' w6) := tr HB4.out hb6
      clear hb6 HB4 ib
      go_wp2_with fail
      refine (zzident_is _ _ _ (mid_size a b 45 h1 h2) (tail45 a b HP.out)).mono ?_
      rintro e w7 ⟨rfl, hb7⟩
      have HB7 : Hid (Below w'.heap.size w' w7) := tr HB6.out hb7
      clear hb7 HB6
      have hone := one_byte w7 c
      have hB8 : Below w'.heap.size w' (w7.alloc (.cells #[.int .u8 (c.toNat : Int)] 5)) := HB7.out.alloc HB7.out.size _
      go_wp2_with fail
      clear hone
      refine (zzident_is _ _ _ (mid_size a b c h1 h2) (tailc a b c HP.out HQ.out)).mono ?_
      rintro e w9 ⟨rfl, hb9⟩
      have HB9 : Hid (Below w'.heap.size w' w9) := tr hB8 hb9
      clear hb9 hB8 HB7 HP
      go_wp2_with fail
      refine (alpha_is _ _ w9 (UInt8.toNat_lt c) HQ.out).mono ?_
      rintro e w10 ⟨rfl, rfl⟩
      go_wp2
      all_goals (go_ret; exact ⟨rfl, HB9.out⟩)
  · rcases st3 b with ⟨eb, hb⟩ | ⟨eb, ib, hb⟩ | ⟨eb, ib, hb⟩
    · have HP : Hid ((allC a.data.toList && allC b.data.toList) = true) := by rw [ha, hb]; rfl
      clear ha hb
      go_wp2_with fail
      refine (zzident_is _ _ _ (by omega) ia).mono ?_
      rintro e w5 ⟨rfl, hb5⟩
      have HB5 : Hid (Below w'.heap.size w' w5) := tr HB4.out hb5
      clear hb5 HB4 ia
      go_wp2_with fail
      refine (zzident_is _ _ _ (mid_size a b 45 h1 h2) (tail45 a b HP.out)).mono ?_
      rintro e w7 ⟨rfl, hb7⟩
      have HB7 : Hid (Below w'.heap.size w' w7) := tr HB5.out hb7
      clear hb7 HB5
      have hone := one_byte w7 c
      have hB8 : Below w'.heap.size w' (w7.alloc (.cells #[.int .u8 (c.toNat : Int)] 5)) := HB7.out.alloc HB7.out.size _
      go_wp2_with fail
      clear hone
      refine (zzident_is _ _ _ (mid_size a b c h1 h2) (tailc a b c HP.out HQ.out)).mono ?_
      rintro e w9 ⟨rfl, hb9⟩
      have HB9 : Hid (Below w'.heap.size w' w9) := tr hB8 hb9
      clear hb9 hB8 HB7 HP
      go_wp2_with fail
      refine (alpha_is _ _ w9 (UInt8.toNat_lt c) HQ.out).mono ?_
      rintro e w10 ⟨rfl, rfl⟩
      go_wp2
      all_goals (go_ret; exact ⟨rfl, HB9.out⟩)
    · have HP : Hid ((allC a.data.toList && allC b.data.toList) = true) := by rw [ha, hb]; rfl
      clear ha hb
      go_wp2_with fail
      refine (zzident_is _ _ _ (by omega) ia).mono ?_
      rintro e w5 ⟨rfl, hb5⟩
      have HB5 : Hid (Below w'.heap.size w' w5) := tr HB4.out hb5
      clear hb5 HB4 ia
      go_wp2_with fail
      refine (zzident_is _ _ _ (by omega) ib).mono ?_
      rintro e w6 ⟨rfl, hb6⟩
      have HB6 : Hid (Below w'.heap.size w' w6) := tr HB5.out hb6
      clear hb6 HB5 ib
      go_wp2_with fail
      refine (zzident_is _ _ _ (mid_size a b 45 h1 h2) (tail45 a b HP.out)).mono ?_
      rintro e w7 ⟨rfl, hb7⟩
      have HB7 : Hid (Below w'.heap.size w' w7) := tr HB6.out hb7
      clear hb7 HB6
      have hone := one_byte w7 c
      have hB8 : Below w'.heap.size w' (w7.alloc (.cells #[.int .u8 (c.toNat : Int)] 5)) := HB7.out.alloc HB7.out.size _
      go_wp2_with fail
      clear hone
      refine (zzident_is _ _ _ (mid_size a b c h1 h2) (tailc a b c HP.out HQ.out)).mono ?_
      rintro e w9 ⟨rfl, hb9⟩
      have HB9 : Hid (Below w'.heap.size w' w9) := tr hB8 hb9
      clear hb9 hB8 HB7 HP
      go_wp2_with fail
      refine (alpha_is _ _ w9 (UInt8.toNat_lt c) HQ.out).mono ?_
      rintro e w10 ⟨rfl, rfl⟩
      go_wp2
      all_goals (go_ret; exact ⟨rfl, HB9.out⟩)
    · have HP : Hid ((allC a.data.toList && allC b.data.toList) = false) := by rw [ha, hb]; rfl
      clear ha hb
      go_wp2_with fail
      refine (zzident_is _ _ _ (by omega) ia).mono ?_
      rintro e w5 ⟨rfl, hb5⟩
      have HB5 : Hid (Below w'.heap.size w' w5) := tr HB4.out hb5
      clear hb5 HB4 ia
      go_wp2_with fail
      refine (zzident_is _ _ _ (by omega) ib).mono ?_
      rintro e w6 ⟨rfl, hb6⟩
      have HB6 : Hid (Below w'.heap.size w' w6) := tr HB5.out hb6
      clear hb6 HB5 ib
      go_wp2_with fail
      refine (zzident_is _ _ _ (mid_size a b 45 h1 h2) (tail45 a b HP.out)).mono ?_
      rintro e w7 ⟨rfl, hb7⟩
      have HB7 : Hid (Below w'.heap.size w' w7) := tr HB6.out hb7
      clear hb7 HB6
      have hone := one_byte w7 c
      have hB8 : Below w'.heap.size w' (w7.alloc (.cells #[.int .u8 (c.toNat : Int)] 5)) := HB7.out.alloc HB7.out.size _
      go_wp2_with fail
      clear hone
      refine (zzident_is _ _ _ (mid_size a b c h1 h2) (tailc a b c HP.out HQ.out)).mono ?_
      rintro e w9 ⟨rfl, hb9⟩
      have HB9 : Hid (Below w'.heap.size w' w9) := tr hB8 hb9
      clear hb9 hB8 HB7 HP
      go_wp2_with fail
      refine (alpha_is _ _ w9 (UInt8.toNat_lt c) HQ.out).mono ?_
      rintro e w10 ⟨rfl, rfl⟩
      go_wp2
      all_goals (go_ret; exact ⟨rfl, HB9.out⟩)
  · have HP : Hid ((allC a.data.toList && allC b.data.toList) = false) := by rw [ha]; rfl
    clear ha
    go_wp2_with fail
    refine (zzident_is _ _ _ (by omega) ia).mono ?_
    rintro e w5 ⟨rfl, hb5⟩
    have HB5 : Hid (Below w'.heap.size w' w5) := tr HB4.out hb5
    clear hb5 HB4 ia
    go_wp2_with fail
    refine (zzident_is _ _ _ (mid_size a b 45 h1 h2) (tail45 a b HP.out)).mono ?_
    rintro e w7 ⟨rfl, hb7⟩
    have HB7 : Hid (Below w'.heap.size w' w7) := tr HB5.out hb7
    clear hb7 HB5
    have hone := one_byte w7 c
    have hB8 : Below w'.heap.size w' (w7.alloc (.cells #[.int .u8 (c.toNat : Int)] 5)) := HB7.out.alloc HB7.out.size _
    go_wp2_with fail
    clear hone
    refine (zzident_is _ _ _ (mid_size a b c h1 h2) (tailc a b c HP.out HQ.out)).mono ?_
    rintro e w9 ⟨rfl, hb9⟩
    have HB9 : Hid (Below w'.heap.size w' w9) := tr hB8 hb9
    clear hb9 hB8 HB7 HP
    go_wp2_with fail
    refine (alpha_is _ _ w9 (UInt8.toNat_lt c) HQ.out).mono ?_
    rintro e w10 ⟨rfl, rfl⟩
    go_wp2
    all_goals (go_ret; exact ⟨rfl, HB9.out⟩)

theorem walk (a0 : ByteArray) (a1 : ByteArray) (a2 : Int) (w0 : a0.size ≤ maxLen) (w1 : a1.size ≤ maxLen) (w2 : (Lit.int .u8 a2).wf = true) (w : World) :
    Calls Try.prog 6 #[.string a0, .string a1, .int .u8 a2] w fun e w' => e = .returned (.bool true) ∧ Below w.heap.size w w' := by
  have b2 := bounds_u8 w2
  by_cases h : 1048576 < a0.size + a1.size
  · exact walk_big a0 a1 a2 w0 w1 w h
  · by_cases h2 : 524288 < a0.size ∨ 524288 < a1.size
    · exact walk_half a0 a1 a2 w (by omega) h2
    · have hk := walk_small a0 a1 (UInt8.ofNat a2.toNat) _ rfl w (by omega) (by omega)
      have e : (((UInt8.ofNat a2.toNat).toNat : Nat) : Int) = a2 := by
        rw [UInt8.toNat_ofNat', Nat.mod_eq_of_lt (by omega)]; omega
      rw [e] at hk
      exact hk

set_option maxRecDepth 100000 in
theorem lifted (os : Os) (started : os.Started) (H : Type) (enc : TypeId × Value → H) :
    ReturnsInHanded {} Try.checked os 6 .any (Rows.fnIsIdentifierRefusesSeparatorsSpec.pre6 enc Try.prog Try.f6 Rows.fnIsIdentifierRefusesSeparatorsRow.domain false) (Rows.fnIsIdentifierRefusesSeparatorsSpec.post enc Try.prog Try.f6 false true false false) := by
  refine returnsInHanded_of_change (C := Try.checked) own started (by kernel_rfl) Try.func6
    (ChangeSpec.witness6 (enc := enc) (C := Try.checked) false ⟨#[], #[.string ByteArray.empty, .string ByteArray.empty, .int .u8 0], []⟩ 8 (by kernel_rfl) (by kernel_rfl) (by kernel_rfl) (by kernel_rfl)) ?_
  intro W base args ds gs before hval0 hW hcnd _
  have hval : ∀ (j : Nat) t v, Try.f6.params[j]? = some t → args[j]? = some v → Value.okWide Try.prog W .any base t v := hval0
  have hW' := hW
  obtain ⟨p, q, hA0, hV, rfl, hfz, hnd⟩ := hW
  have hA : DataW.TrodAll enc Try.prog W 0 (fun _ => true) true Try.f6.params.toList args.toList ds p := hA0
  rw [Try.params6] at hA hval
  obtain ⟨v0, vs0, d0, ds0, p0, q0, hargs, rfl, rfl, h0, r0⟩ := trodAll_cons hA
  obtain ⟨v1, vs1, d1, ds1, p1, q1, rfl, rfl, rfl, h1, r1⟩ := trodAll_cons r0
  obtain ⟨v2, vs2, d2, ds2, p2, q2, rfl, rfl, rfl, h2, r2⟩ := trodAll_cons r1
  obtain ⟨rfl, rfl, rfl⟩ := trodAll_nil r2
  obtain rfl : args = #[v0, v1, v2] := by cases args; simp_all
  obtain ⟨rfl, rfl⟩ := trodVars_none hV
  obtain ⟨a0, rfl, rfl, rfl, w0⟩ := open_string Try.underlying9 (hval 0 9 v0 rfl rfl) h0
  obtain ⟨a1, rfl, rfl, rfl, w1⟩ := open_string Try.underlying9 (hval 1 9 v1 rfl rfl) h1
  obtain ⟨a2, rfl, rfl, rfl, w2⟩ := open_int Try.underlying5 (hval 2 5 v2 rfl rfl) h2
  clear hA0 hval0
  refine (walk a0 a1 a2 w0 w1 w2 W).mono fun e W' ⟨he, bel⟩ => ?_
  subst he
  exact ⟨_, rfl, _, _, _, [], _, [], hW', trodAll_mk1 (shut_bool Try.underlying4 _), (trodAll_cons_mk (shut_string Try.underlying9 w0) (trodAll_cons_mk (shut_string Try.underlying9 w1) (trodAll_cons_mk (shut_int Try.underlying5 w2) trodAll_mk0))), rfl, bel.frame _, fun h => by cases h⟩

theorem over : Rows.fnIsIdentifierRefusesSeparatorsRow.holds Try.pinned (OpenSpec.ofChange Rows.fnIsIdentifierRefusesSeparatorsSpec) :=
  OpenClaim.holds_of_wide 6 Try.f6 rfl rfl rfl rfl rfl rfl rfl ⟨rfl, rfl, rfl, rfl, rfl⟩ rfl rfl rfl rfl rfl c_named Try.func6 c_closed c_inst c_wrap
    (fun os started H enc _ => lifted os started H enc)

theorem proved : Rows.FnIsIdentifierRefusesSeparatorsSaid :=
  over
#print axioms proved
end Go.Proofs.Qxb6602919a.fnIsIdentifierRefusesSeparators
