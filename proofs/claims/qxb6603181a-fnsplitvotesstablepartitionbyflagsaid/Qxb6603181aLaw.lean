import Derived.Test.Qxb6603181aSplit
namespace Go.Proofs.Qxb6603181a
open Go.RowKit

set_option maxHeartbeats 400000 in
theorem zzsplit_any (a : Option Addr) (ms : List Mem) (cap : Nat) (w : World) (hr : MRd w a ms) (hl : ms.length ≤ 65536) :
    Calls Try.prog 9 #[.slice a ms.length cap] w fun e w' => ∃ av cv an cn, e = .returned (.tuple #[.slice av (vs ms).length cv, .slice an (ns ms).length cn]) ∧ OR w' w.heap.size av cv (vs ms) ∧ OR w' w.heap.size an cn (ns ms) ∧ Below w.heap.size w w' := by
  have HR : Hid (MRd w a ms) := hr
  clear hr
  go_enter Try.func9, Try.ntmps9
  go_wp2_with fail
  refine (split_any a ms cap _ HR.out hl).mono ?_
  rintro e w1 ⟨av, cv, an, cn, rfl, h1, h2, h3⟩
  have H : Hid _ := And.intro h1 (And.intro h2 h3)
  clear h1 h2 h3
  go_wp2
  go_ret2
  exact ⟨av, cv, an, cn, rfl, H.out⟩

theorem cellsM_at (ms : List Mem) (j : Nat) (hj : j < ms.length) : ∀ i, i < 4 → (cellsM ms)[j * 4 + i]? = (ms.getD j mem0).cells[i]? := by
  induction ms generalizing j with
  | nil => simp at hj
  | cons m ms ih =>
    intro i hi
    have hh : m.cells.length = 4 := rfl
    cases j with
    | zero =>
      show (m.cells ++ cellsM ms)[0 * 4 + i]? = _
      rw [List.getElem?_append_left (by omega)]
      simp
    | succ j =>
      show (m.cells ++ cellsM ms)[(j + 1) * 4 + i]? = _
      rw [List.getElem?_append_right (by omega)]
      have e : (j + 1) * 4 + i - m.cells.length = j * 4 + i := by omega
      rw [e, ih j (by simpa using hj) i hi]
      simp

theorem OR.rd {w : World} {B cap : Nat} {a : Option Addr} {ms : List Mem} (h : OR w B a cap ms) : MRd w a ms := by
  rcases h with ⟨_, h, _⟩ | ⟨g, ha, _, ho⟩
  · exact .inl h
  · refine .inr ⟨g, 0, ha, fun j hj => ?_⟩
    have e := cellsM_at ms j hj
    have c : ∀ i, i < 4 → w.cell? ⟨g, j * 4 + i, none⟩ = (ms.getD j mem0).cells[i]? := fun i hi => by
      rw [ho.cellAt (j * 4 + i) (by omega), e i hi]
    simp only [Nat.zero_add]
    exact ⟨c 0 (by omega), c 1 (by omega), c 2 (by omega), c 3 (by omega)⟩
theorem OR.nilIs {w : World} {B cap : Nat} {a : Option Addr} {ms : List Mem} (h : OR w B a cap ms) : a.isNone = ((ms.length : Int) == 0) := by
  rcases h with ⟨rfl, rfl, _⟩ | ⟨g, rfl, hne, _⟩
  · rfl
  · cases ms with
    | nil => exact absurd rfl hne
    | cons m ms => exact (eq_f (by simp; omega)).symm

theorem fields30 : Try.prog.underlying 30 = some (.struct (Try.prog.fieldsOf 30)) := by kernel_rfl
theorem eql_is (v m : Mem) (w : World) : (binOp .eql 30 (.agg #[.string v.id, .string v.addr, .string v.api, .bool v.nv]) (.agg #[.string m.id, .string m.addr, .string m.api, .bool m.nv])).run Try.prog w = .ok (.bool ((v.id.toList == m.id.toList) && ((v.addr.toList == m.addr.toList) && ((v.api.toList == m.api.toList) && (v.nv == m.nv))))) w := by
  cases h1 : (v.id.toList == m.id.toList) <;> cases h2 : (v.addr.toList == m.addr.toList) <;> cases h3 : (v.api.toList == m.api.toList) <;> cases h4 : (v.nv == m.nv)
  all_goals go_simp
theorem eql_yes (m : Mem) (w : World) : (binOp .eql 30 (.agg #[.string m.id, .string m.addr, .string m.api, .bool m.nv]) (.agg #[.string m.id, .string m.addr, .string m.api, .bool m.nv])).run Try.prog w = .ok (.bool true) w := by
  rw [eql_is]; simp
theorem eql_no (v m : Mem) (h : (v.nv == m.nv) = false) (w : World) : (binOp .eql 30 (.agg #[.string v.id, .string v.addr, .string v.api, .bool v.nv]) (.agg #[.string m.id, .string m.addr, .string m.api, .bool m.nv])).run Try.prog w = .ok (.bool false) w := by
  rw [eql_is, h]; simp

theorem parts (ms : List Mem) (k : Nat) (h : k < ms.length) : ms = ms.take k ++ ms.getD k mem0 :: ms.drop (k + 1) := by
  have e : ms.getD k mem0 = ms[k] := by rw [List.getD, List.getElem?_eq_getElem h]; rfl
  rw [e]
  simp
theorem vs_at (ms : List Mem) (k : Nat) (h : k < ms.length) (hn : (ms.getD k mem0).nv = false) : (vs (ms.take k)).length < (vs ms).length ∧ (vs ms).getD (vs (ms.take k)).length mem0 = ms.getD k mem0 := by
  have e : vs ms = vs (ms.take k) ++ ms.getD k mem0 :: vs (ms.drop (k + 1)) := by
    have p := parts ms k h
    generalize ms.getD k mem0 = m at hn p
    have : vs ms = vs (ms.take k ++ m :: ms.drop (k + 1)) := by rw [← p]
    rw [this]
    simp [vs, hn]
  rw [e]
  constructor
  · simp
  · simp [List.getD]
theorem ns_at (ms : List Mem) (k : Nat) (h : k < ms.length) (hn : (ms.getD k mem0).nv = true) : (ns (ms.take k)).length < (ns ms).length ∧ (ns ms).getD (ns (ms.take k)).length mem0 = ms.getD k mem0 := by
  have e : ns ms = ns (ms.take k) ++ ms.getD k mem0 :: ns (ms.drop (k + 1)) := by
    have p := parts ms k h
    generalize ms.getD k mem0 = m at hn p
    have : ns ms = ns (ms.take k ++ m :: ms.drop (k + 1)) := by rw [← p]
    rw [this]
    simp [ns, hn]
  rw [e]
  constructor
  · simp
  · simp [List.getD]
theorem getD_mem (ms : List Mem) (i : Nat) (h : i < ms.length) : ms.getD i mem0 ∈ ms := by
  have e : ms.getD i mem0 = ms[i] := by rw [List.getD, List.getElem?_eq_getElem h]; rfl
  rw [e]; exact List.getElem_mem h
theorem vs_flag (ms : List Mem) (i : Nat) (h : i < (vs ms).length) : ((vs ms).getD i mem0).nv = false := by
  have := getD_mem _ i h
  generalize (vs ms).getD i mem0 = m at this
  simp [vs] at this
  exact this.2
theorem ns_flag (ms : List Mem) (i : Nat) (h : i < (ns ms).length) : ((ns ms).getD i mem0).nv = true := by
  have := getD_mem _ i h
  generalize (ns ms).getD i mem0 = m at this
  simp [ns] at this
  exact this.2
theorem vn_len (ms : List Mem) : (vs ms).length + (ns ms).length = ms.length := by
  induction ms with
  | nil => rfl
  | cons m ms ih =>
    simp only [vs, ns] at ih ⊢
    cases h : m.nv <;> simp [h] <;> omega
theorem vs_le (ms : List Mem) (k : Nat) : (vs (ms.take k)).length ≤ (vs ms).length := (List.Sublist.filter _ (List.take_sublist k ms)).length_le
theorem ns_le (ms : List Mem) (k : Nat) : (ns (ms.take k)).length ≤ (ns ms).length := (List.Sublist.filter _ (List.take_sublist k ms)).length_le

theorem MRd.drewN {w : World} {a : Option Addr} {ms : List Mem} (h : MRd w a ms) (n : Nat) : MRd (w.drewN n) a ms := h
theorem MRd.below {w w' : World} {a : Option Addr} {ms : List Mem} (h : MRd w a ms) (hb : Below w.heap.size w w') : MRd w' a ms := by
  rcases h with h | ⟨g, off, h1, h2⟩
  · exact .inl h
  · refine .inr ⟨g, off, h1, fun j hj => ?_⟩
    obtain ⟨c0, c1, c2, c3⟩ := h2 j hj
    exact ⟨(hb.cell (lt_of_cell c0)).trans c0, (hb.cell (lt_of_cell c1)).trans c1, (hb.cell (lt_of_cell c2)).trans c2, (hb.cell (lt_of_cell c3)).trans c3⟩

set_option maxHeartbeats 400000 in
theorem law_long (a : Option Addr) (ms : List Mem) (cap : Nat) (w : World) (hr : MRd w a ms) (hz : ∀ m ∈ ms, m.small) (hl : ms.length ≤ 9223372036854775807) (hbig : 65536 < ms.length) :
    Calls Try.prog 3 #[.slice a ms.length cap] w fun e w' => e = .returned (.bool true) ∧ Below w.heap.size w w' := by
  have HR : Hid (MRd w a ms) := hr
  have HZ : Hid (∀ m ∈ ms, m.small) := hz
  clear hr hz
  go_enter Try.func3, Try.ntmps3
  go_wp2_with fail
  refine (sums_any a ms cap _ HR.out HZ.out hl).mono ?_
  rintro e w' ⟨⟨b, rfl⟩, hw⟩
  subst hw
  cases b
  all_goals
    go_wp2
    go_ret
    exact ⟨rfl, Below.refl _ _⟩

set_option maxRecDepth 100000 in
set_option maxHeartbeats 2000000 in
theorem law_walk (a : Option Addr) (ms : List Mem) (cap : Nat) (w : World) (hr : MRd w a ms) (hn : a = none → ms = []) (hz : ∀ m ∈ ms, m.small) (hl : ms.length ≤ 65536) :
    Calls Try.prog 3 #[.slice a ms.length cap] w fun e w' => e = .returned (.bool true) ∧ Below w.heap.size w w' := by
  have HR : Hid (MRd w a ms) := hr
  have HZ : Hid (∀ m ∈ ms, m.small) := hz
  have HNL : Hid (a = none → ms = []) := hn
  clear hr hz hn
  go_enter Try.func3, Try.ntmps3
  go_wp2_with fail
  refine (sums_any a ms cap _ HR.out HZ.out (by omega)).mono ?_
  rintro e w' ⟨⟨b, rfl⟩, hw⟩
  subst hw
  cases b
  · go_wp2
    go_ret
    exact ⟨rfl, Below.refl _ _⟩
  go_wp2_with fail
  refine (bytes_any a ms cap _ HR.out HZ.out hl).mono ?_
  rintro e w' ⟨n1, rfl, hn1, hn1', hw⟩
  subst hw
  by_cases hq : 1048576 < n1
  · go_wp2
    go_ret
    exact ⟨rfl, Below.refl _ _⟩
  go_wp2_with fail
  clear hq
  refine (serv_any a ms cap _ HR.out HNL.out hl).mono ?_
  rintro e w1 ⟨a1, rfl, hr1, _, hb1⟩
  have HR1 : Hid (MRd w1 a1 ms) := hr1
  have HB1 : Hid (Below w'.heap.size w' w1) := hb1
  clear hr1 hb1 HR HNL HZ
  go_wp2_with fail
  refine (zzsplit_any a1 ms ms.length _ HR1.out hl).mono ?_
  rintro e w2 ⟨av, cv, an, cn, rfl, hV, hN, hb2⟩
  have HRi : Hid (MRd w2 a1 ms) := HR1.out.below hb2
  have HRv : Hid (MRd w2 av (vs ms)) := hV.rd
  have HRn : Hid (MRd w2 an (ns ms)) := hN.rd
  have hqv := fun w => Lib.run_eql_slice_nil (P := Try.prog) w 25 30 av (vs ms).length cv 0 0 Try.underlying25
  have hqn := fun w => Lib.run_eql_slice_nil (P := Try.prog) w 25 30 an (ns ms).length cn 0 0 Try.underlying25
  rw [hV.nilIs] at hqv
  rw [hN.nilIs] at hqn
  have HB2 : Hid (Below w'.heap.size w' w2) := tr HB1.out hb2
  have hvn := vn_len ms
  have hVb : (vs ms).length ≤ 65536 := by omega
  have hNb : (ns ms).length ≤ 65536 := by omega
  have HVN : Hid ((vs ms).length + (ns ms).length = ms.length) := hvn
  have HFV : Hid (∀ i, i < (vs ms).length → ((vs ms).getD i mem0).nv = false) := vs_flag ms
  have HFN : Hid (∀ i, i < (ns ms).length → ((ns ms).getD i mem0).nv = true) := ns_flag ms
  have HAV : Hid (∀ k, k < ms.length → (ms.getD k mem0).nv = false → (vs (ms.take k)).length < (vs ms).length ∧ (vs ms).getD (vs (ms.take k)).length mem0 = ms.getD k mem0) := vs_at ms
  have HAN : Hid (∀ k, k < ms.length → (ms.getD k mem0).nv = true → (ns (ms.take k)).length < (ns ms).length ∧ (ns ms).getD (ns (ms.take k)).length mem0 = ms.getD k mem0) := ns_at ms
  have HLV : Hid (∀ k, (vs (ms.take k)).length ≤ (vs ms).length) := vs_le ms
  have HLN : Hid (∀ k, (ns (ms.take k)).length ≤ (ns ms).length) := ns_le ms
  have HTV : Hid (vs (ms.take ms.length) = vs ms) := by show _ = _; rw [List.take_length]
  have HTN : Hid (ns (ms.take ms.length) = ns ms) := by show _ = _; rw [List.take_length]
  obtain ⟨V, hVe⟩ : ∃ V, V = vs ms := ⟨_, rfl⟩
  obtain ⟨N, hNe⟩ : ∃ N, N = ns ms := ⟨_, rfl⟩
  rw [← hVe] at HRv hqv hVb HVN HFV HAV HLV HTV ⊢
  rw [← hNe] at HRn hqn hNb HVN HFN HAN HLN HTN ⊢
  clear hV hN hb2 HR1 HB1 hvn hVe hNe
  go_wp2_with fail
  go_loop [6] (fun v => ∃ i : Nat, i ≤ V.length ∧ v = .int .i64 i) (fun v => V.length - (intOf v).toNat)
  case atStart => exact ⟨0, Nat.zero_le _, rfl⟩
  case round =>
    obtain ⟨i, hi, rfl⟩ := hrel
    by_cases hlt : i < V.length
    · obtain ⟨b, off, ha, hc⟩ := HRv.out.at_ hlt
      obtain ⟨_, _, _, c3⟩ := hc i hlt
      rw [HFV.out i hlt] at c3
      clear hc
      go_wp2
      go_round
      case rel => exact ⟨i + 1, by omega, by go_num⟩
      case measure => simp [intOf]; omega
    · go_wp2
      go_loop [7] (fun v => ∃ i : Nat, i ≤ N.length ∧ v = .int .i64 i) (fun v => N.length - (intOf v).toNat)
      case atStart => exact ⟨0, Nat.zero_le _, rfl⟩
      case round =>
        obtain ⟨j, hj, rfl⟩ := hrel
        by_cases hltj : j < N.length
        · obtain ⟨b, off, ha, hc⟩ := HRn.out.at_ hltj
          obtain ⟨_, _, _, c3⟩ := hc j hltj
          rw [HFN.out j hltj] at c3
          clear hc
          go_wp2
          go_round
          case rel => exact ⟨j + 1, by omega, by go_num⟩
          case measure => simp [intOf]; omega
        · have e1 : ((V.length : Int) + (N.length : Int) != (ms.length : Int)) = false := ne_f (by have := HVN.out; omega)
          go_wp2
          clear e1
          go_loopw [8, 9, 10] (fun x y z wr => ∃ k q : Nat, k ≤ ms.length ∧ z = .int .i64 k ∧ x = .int .i64 ((vs (ms.take k)).length : Nat) ∧ y = .int .i64 ((ns (ms.take k)).length : Nat) ∧ wr = w2.drewN q) (fun _ _ z _ => ms.length - (intOf z).toNat)
          case atStart => exact ⟨0, 0, Nat.zero_le _, rfl, rfl, rfl, rfl⟩
          case round =>
            obtain ⟨k, q, hk, rfl, rfl, rfl, rfl⟩ := hrel
            have hvle := HLV.out k
            have hnle := HLN.out k
            by_cases hltk : k < ms.length
            · obtain ⟨b0, off0, ha0, hc0⟩ := HRi.out.at_ hltk
              obtain ⟨i0, i1, i2, i3⟩ := hc0 k hltk
              have hyes := vs_yes ms k hltk
              have hno := vs_no ms k hltk
              have hav := HAV.out k hltk
              have han := HAN.out k hltk
              obtain ⟨x, hx⟩ : ∃ x, x = (vs (ms.take k)).length := ⟨_, rfl⟩
              obtain ⟨y, hy⟩ : ∃ y, y = (ns (ms.take k)).length := ⟨_, rfl⟩
              obtain ⟨m, hm⟩ : ∃ m, m = ms.getD k mem0 := ⟨_, rfl⟩
              rw [← hx] at hvle hav ⊢
              rw [← hy] at hnle han ⊢
              rw [← hm] at i0 i1 i2 i3 hyes hno hav han
              cases hnv : m.nv
              · obtain ⟨hxl, hxe⟩ := hav hnv
                have hstep : Hid ((vs (ms.take (k + 1))).length = x + 1 ∧ (ns (ms.take (k + 1))).length = y) := by
                  obtain ⟨h1, h2⟩ := hyes hnv
                  rw [h1, h2, hx, hy]; exact ⟨by simp, rfl⟩
                obtain ⟨bv, offv, hav', hcv⟩ := HRv.out.at_ hxl
                obtain ⟨v0, v1, v2, v3⟩ := hcv x hxl
                rw [hxe] at v0 v1 v2 v3
                have heq := eql_yes m
                rw [hnv] at i3 v3 heq
                have d1 : decide ((x : Int) < (V.length : Int)) = true := decide_eq_true (by omega)
                clear hyes hno hav han hx hy hm hnv hxe hcv hc0
                go_wp2
                go_quiet (fail)
                go_wp2
                go_roundw
                case rel => exact ⟨k + 1, _, by omega, by go_num, by rw [hstep.out.1]; go_num, by rw [hstep.out.2], rfl⟩
                case measure => simp [intOf]; omega
              · obtain ⟨hyl, hye⟩ := han hnv
                have hstep : Hid ((vs (ms.take (k + 1))).length = x ∧ (ns (ms.take (k + 1))).length = y + 1) := by
                  obtain ⟨h1, h2⟩ := hno hnv
                  rw [h1, h2, hx, hy]; exact ⟨rfl, by simp⟩
                obtain ⟨bn, offn, han', hcn⟩ := HRn.out.at_ hyl
                obtain ⟨n0, n1', n2', n3⟩ := hcn y hyl
                rw [hye] at n0 n1' n2' n3
                have heq := eql_yes m
                have d2 : decide ((y : Int) < (N.length : Int)) = true := decide_eq_true (by omega)
                by_cases hxl : x < V.length
                · obtain ⟨bv, offv, hav', hcv⟩ := HRv.out.at_ hxl
                  obtain ⟨v0, v1, v2, v3⟩ := hcv x hxl
                  have hfl := HFV.out x hxl
                  obtain ⟨u, hu⟩ : ∃ u, u = V.getD x mem0 := ⟨_, rfl⟩
                  rw [← hu] at v0 v1 v2 v3 hfl
                  have hne := eql_no u m (by rw [hfl, hnv]; rfl)
                  rw [hnv] at i3 n3 heq hne
                  rw [hfl] at v3 hne
                  have d1 : decide ((x : Int) < (V.length : Int)) = true := decide_eq_true (by omega)
                  clear hyes hno hav han hx hy hm hnv hye hcn hcv hc0 hfl hu
                  go_wp2
                  go_quiet (fail)
                  go_wp2
                  go_quiet (fail)
                  go_wp2
                  go_roundw
                  case rel => exact ⟨k + 1, _, by omega, by go_num, by rw [hstep.out.1], by rw [hstep.out.2]; go_num, rfl⟩
                  case measure => simp [intOf]; omega
                · rw [hnv] at i3 n3 heq
                  have d1 : decide ((x : Int) < (V.length : Int)) = false := decide_eq_false (by omega)
                  clear hyes hno hav han hx hy hm hnv hye hcn hc0
                  go_wp2
                  go_quiet (fail)
                  go_wp2
                  go_quiet (fail)
                  go_wp2
                  go_roundw
                  case rel => exact ⟨k + 1, _, by omega, by go_num, by rw [hstep.out.1], by rw [hstep.out.2]; go_num, rfl⟩
                  case measure => simp [intOf]; omega
            · obtain rfl : k = ms.length := by omega
              rw [HTV.out, HTN.out]
              clear hvle hnle
              go_wp2
              go_ret
              exact ⟨rfl, below_drewN HB2.out _⟩
end Go.Proofs.Qxb6603181a
