import Derived.Test.Qxb6602990aSubj
namespace Go.Proofs.Qxb6602990a
open Go.RowKit Go.Proofs.Qxb6602990a.Plain

theorem SB.below {w w' : World} {a : Option Addr} {ss : List ByteArray} (h : SB w a ss) (hb : Below w.heap.size w w') : SB w' a ss := by
  rcases h with h | ⟨g, C, fr, h1, h2, h3⟩
  · exact .inl h
  · exact .inr ⟨g, C, fr, h1, by rw [hb.block g (lt_of_block h2)]; exact h2, h3⟩
theorem SB.jframe {w w' : World} {P : Nat} {c : Array Value} {m : Nat × Nat} {a : Option Addr} {ss : List ByteArray} (h : SB w a ss) (hP : w.heap[P]? = some (.cells c 33 m)) (hj : JFrame P w w') : SB w' a ss := by
  rcases h with h | ⟨g, C, fr, h1, h2, h3⟩
  · exact .inl h
  · refine .inr ⟨g, C, fr, h1, ?_, h3⟩
    rw [hj.block g (lt_of_block h2) (fun e => by subst e; rw [h2] at hP; simp at hP)]
    exact h2
theorem SRd.below {w w' : World} {a : Option Addr} {ss : List ByteArray} (h : SRd w a ss) (hb : Below w.heap.size w w') : SRd w' a ss := by
  rcases h with h | ⟨g, off, h1, h2⟩
  · exact .inl h
  · exact .inr ⟨g, off, h1, fun j hj => (hb.cell (lt_of_cell (h2 j hj))).trans (h2 j hj)⟩
theorem SRd.cells0 {w : World} {g : Nat} {L : List ByteArray} (h : SRd w (some ⟨g, 0, none⟩) L) : ∀ j, j < L.length → w.cell? ⟨g, j, none⟩ = some (.string (L.getD j ByteArray.empty)) := by
  intro j hj
  obtain ⟨b, off, ha, hc⟩ := h.at_ hj
  simp at ha
  obtain ⟨rfl, rfl⟩ := ha
  have := hc j hj
  rwa [Nat.zero_add] at this
theorem same_at {L ss G : List ByteArray} {i : Nat} (h : L = ss ++ G) (hi : i < ss.length) : L.getD i ByteArray.empty = ss.getD i ByteArray.empty := by
  subst h
  simp [List.getD, List.getElem?_append, hi]
theorem drop_at {L ss G : List ByteArray} {j : Nat} (h : L = ss ++ G) : L.getD (ss.length + j) ByteArray.empty = G.getD j ByteArray.empty := by
  subst h
  simp [List.getD, List.getElem?_append_right]
theorem SRd.drop {w : World} {g : Nat} {L ss G : List ByteArray} (h : SRd w (some ⟨g, 0, none⟩) L) (hL : L = ss ++ G) : SRd w (some ⟨g, ss.length, none⟩) G := by
  refine .inr ⟨g, ss.length, rfl, fun j hj => ?_⟩
  have := h.cells0 (ss.length + j) (by rw [hL]; simp; omega)
  rwa [drop_at hL] at this
theorem getD_mem {G : List ByteArray} {j : Nat} (hj : j < G.length) : G.getD j ByteArray.empty ∈ G := by
  have e : G.getD j ByteArray.empty = G[j] := by rw [List.getD, List.getElem?_eq_getElem hj]; rfl
  rw [e]; exact List.getElem_mem hj
theorem SB.alloc {w : World} {a : Option Addr} {ss : List ByteArray} (h : SB w a ss) (o : Obj) : SB (w.alloc o) a ss := h.below ((Below.refl _ _).alloc (Nat.le_refl _) _)
theorem tr {W a b : World} (h1 : Below W.heap.size W a) (h2 : Below a.heap.size a b) : Below W.heap.size W b := h1.trans (h2.mono h1.size)
theorem trj {W a b : World} {P : Nat} (h1 : Below W.heap.size W a) (h2 : JFrame P a b) (hP : W.heap.size ≤ P) : Below W.heap.size W b :=
  ⟨h2.os.trans h1.os, h2.tape.trans h1.tape, h2.output.trans h1.output, Nat.le_trans h1.size h2.size, fun k hk => (h2.block k (Nat.lt_of_lt_of_le hk h1.size) (by omega)).trans (h1.block k hk)⟩

set_option maxRecDepth 100000 in
set_option maxHeartbeats 1000000 in
theorem walk_big (k1 k2 : Int) (name part : ByteArray) (r : Bool) (a : Option Addr) (ss : List ByteArray) (cap : Nat) (a' : Option Addr) (tt : List ByteArray) (cap' : Nat) (w : World) (hr : SRd w a ss) (hr' : SRd w a' tt)
    (hn : name.size ≤ 9223372036854775807) (hp : part.size ≤ 9223372036854775807) (hl : ss.length ≤ 9223372036854775807) (hl' : tt.length ≤ 9223372036854775807)
    (hz : ∀ s ∈ ss, s.size ≤ 9223372036854775807) (hz' : ∀ s ∈ tt, s.size ≤ 9223372036854775807)
    (hq : ¬ (name.size ≤ 65536 ∧ part.size ≤ 65536 ∧ ss.length ≤ 65536 ∧ tt.length ≤ 65536)) :
    Calls Try.prog 10 #[.int .i64 k1, .int .i64 k2, .string name, .string part, .slice a ss.length cap, .slice a' tt.length cap', .bool r] w fun e w' => e = .returned (.bool true) ∧ Below w.heap.size w w' := by
  have HR : Hid (SRd w a ss) := hr
  have HR' : Hid (SRd w a' tt) := hr'
  have HZ : Hid (∀ s ∈ ss, s.size ≤ 9223372036854775807) := hz
  have HZ' : Hid (∀ s ∈ tt, s.size ≤ 9223372036854775807) := hz'
  clear hr hr' hz hz'
  by_cases q0 : 65536 < name.size
  · have e0 : decide ((65536 : Int) < (name.size : Int)) = true := decide_eq_true (by omega)
    clear hq
    go_enter Try.func10, Try.ntmps10
    go_wp2_with fail
    refine (sums_any k1 k2 name part r a ss cap a' tt cap' _ HR.out HR'.out hn hp hl hl' HZ.out HZ'.out).mono ?_
    rintro e w' ⟨⟨b, rfl⟩, rfl⟩
    cases b
    all_goals
      go_wp2
      go_ret
      exact ⟨rfl, Below.refl _ _⟩
  · have e0 : decide ((65536 : Int) < (name.size : Int)) = false := decide_eq_false (by omega)
    by_cases q1 : 65536 < part.size
    · have e1 : decide ((65536 : Int) < (part.size : Int)) = true := decide_eq_true (by omega)
      clear hq
      go_enter Try.func10, Try.ntmps10
      go_wp2_with fail
      refine (sums_any k1 k2 name part r a ss cap a' tt cap' _ HR.out HR'.out hn hp hl hl' HZ.out HZ'.out).mono ?_
      rintro e w' ⟨⟨b, rfl⟩, rfl⟩
      cases b
      all_goals
        go_wp2
        go_ret
        exact ⟨rfl, Below.refl _ _⟩
    · have e1 : decide ((65536 : Int) < (part.size : Int)) = false := decide_eq_false (by omega)
      by_cases q2 : 65536 < ss.length
      · have e2 : decide ((65536 : Int) < (ss.length : Int)) = true := decide_eq_true (by omega)
        clear hq
        go_enter Try.func10, Try.ntmps10
        go_wp2_with fail
        refine (sums_any k1 k2 name part r a ss cap a' tt cap' _ HR.out HR'.out hn hp hl hl' HZ.out HZ'.out).mono ?_
        rintro e w' ⟨⟨b, rfl⟩, rfl⟩
        cases b
        all_goals
          go_wp2
          go_ret
          exact ⟨rfl, Below.refl _ _⟩
      · have e2 : decide ((65536 : Int) < (ss.length : Int)) = false := decide_eq_false (by omega)
        have e3 : decide ((65536 : Int) < (tt.length : Int)) = true := decide_eq_true (by omega)
        have q3 : 65536 < tt.length := by omega
        clear hq
        go_enter Try.func10, Try.ntmps10
        go_wp2_with fail
        refine (sums_any k1 k2 name part r a ss cap a' tt cap' _ HR.out HR'.out hn hp hl hl' HZ.out HZ'.out).mono ?_
        rintro e w' ⟨⟨b, rfl⟩, rfl⟩
        cases b
        all_goals
          go_wp2
          go_ret
          exact ⟨rfl, Below.refl _ _⟩

theorem nats_is (s : ByteArray) (w : World) (b : Bool) (hs : s.size ≤ 9000000000000000000) (h : natsB s.data.toList = b) :
    Calls Try.prog 22 #[.string s] w fun e w' => e = .returned (.bool b) ∧ w' = w := h ▸ nats_any s w hs

set_option maxRecDepth 100000 in
set_option maxHeartbeats 8000000 in
theorem walk_small (k1 k2 : Int) (name part : ByteArray) (r : Bool) (a : Option Addr) (ss : List ByteArray) (cap : Nat) (a' : Option Addr) (tt : List ByteArray) (cap' : Nat) (w : World) (hr : SRd w a ss) (hr' : SRd w a' tt)
    (hnil : a = none → ss = []) (hnil' : a' = none → tt = [])
    (hz : ∀ s ∈ ss, s.size ≤ 9223372036854775807) (hz' : ∀ s ∈ tt, s.size ≤ 9223372036854775807)
    (q0 : name.size ≤ 65536) (q1 : part.size ≤ 65536) (q2 : ss.length ≤ 65536) (q3 : tt.length ≤ 65536) :
    Calls Try.prog 10 #[.int .i64 k1, .int .i64 k2, .string name, .string part, .slice a ss.length cap, .slice a' tt.length cap', .bool r] w fun e w' => e = .returned (.bool true) ∧ Below w.heap.size w w' := by
  have HR : Hid (SRd w a ss) := hr
  have HR' : Hid (SRd w a' tt) := hr'
  have HZ : Hid (∀ s ∈ ss, s.size ≤ 9223372036854775807) := hz
  have HZ' : Hid (∀ s ∈ tt, s.size ≤ 9223372036854775807) := hz'
  have HN : Hid (a = none → ss = []) := hnil
  have HN' : Hid (a' = none → tt = []) := hnil'
  clear hr hr' hz hz' hnil hnil'
  have e0 : decide ((65536 : Int) < (name.size : Int)) = false := decide_eq_false (by omega)
  have e1 : decide ((65536 : Int) < (part.size : Int)) = false := decide_eq_false (by omega)
  have e2 : decide ((65536 : Int) < (ss.length : Int)) = false := decide_eq_false (by omega)
  have e3 : decide ((65536 : Int) < (tt.length : Int)) = false := decide_eq_false (by omega)
  go_enter Try.func10, Try.ntmps10
  go_wp2_with fail
  refine (sums_any k1 k2 name part r a ss cap a' tt cap' _ HR.out HR'.out (by omega) (by omega) (by omega) (by omega) HZ.out HZ'.out).mono ?_
  rintro e w' ⟨⟨b, rfl⟩, hw⟩
  subst hw
  cases b
  · go_wp2
    go_ret
    exact ⟨rfl, Below.refl _ _⟩
  go_wp2_with fail
  refine (bytes_any a ss cap _ HR.out (by omega) HZ.out).mono ?_
  rintro e w' ⟨n1, rfl, hn1, hn1', hw⟩
  subst hw
  go_wp2_with fail
  refine (bytes_any a' tt cap' _ HR'.out (by omega) HZ'.out).mono ?_
  rintro e w' ⟨n2, rfl, hn2, hn2', hw⟩
  subst hw
  by_cases q4 : 1048576 < (name.size : Int) + part.size + n1 + n2
  · go_wp2
    go_ret
    exact ⟨rfl, Below.refl _ _⟩
  go_wp2_with fail
  clear q4
  refine (copy_any a ss cap _ HR.out HN.out q2).mono ?_
  rintro e w1 ⟨a1, c1, rfl, hi1, hd1, hc1, hs1, hb1⟩
  have HS1 : Hid (SB w1 a1 ss) := hs1
  have HB1 : Hid (Below w'.heap.size w' w1) := hb1
  have HI1 : Hid (a1.isNone = a.isNone) := hi1
  have HD1 : Hid (a1 = none → ss.length = 0 ∧ c1 = 0) := hd1
  clear hs1 hb1 hi1 hd1
  go_wp2_with fail
  refine (copy_any a' tt cap' _ (HR'.out.below HB1.out) HN'.out q3).mono ?_
  rintro e w2 ⟨a2, c2, rfl, hi2, hd2, hc2, hs2, hb2⟩
  have HS2 : Hid (SB w2 a2 tt) := hs2
  have HB2 : Hid (Below w1.heap.size w1 w2) := hb2
  have HI2 : Hid (a2.isNone = a'.isNone) := hi2
  have HD2 : Hid (a2 = none → tt.length = 0 ∧ c2 = 0) := hd2
  clear hs2 hb2 hi2 hd2
  go_wp2_with fail
  refine (copy_any a1 ss c1 _ (HS1.out.below HB2.out).rd (fun h => List.eq_nil_of_length_eq_zero (HD1.out h).1) q2).mono ?_
  rintro e w3 ⟨a3, c3, rfl, hi3, hd3, hc3, hs3, hb3⟩
  have HS3 : Hid (SB w3 a3 ss) := hs3
  have HB3 : Hid (Below w2.heap.size w2 w3) := hb3
  have HI3 : Hid (a3.isNone = a1.isNone) := hi3
  have HD3 : Hid (a3 = none → ss.length = 0 ∧ c3 = 0) := hd3
  clear hs3 hb3 hi3 hd3
  go_wp2_with fail
  refine (copy_any a2 tt c2 _ (HS2.out.below HB3.out).rd (fun h => List.eq_nil_of_length_eq_zero (HD2.out h).1) q3).mono ?_
  rintro e w4 ⟨a4, c4, rfl, hi4, hd4, hc4, hs4, hb4⟩
  have HS4 : Hid (SB w4 a4 tt) := hs4
  have HB4 : Hid (Below w3.heap.size w3 w4) := hb4
  have HI4 : Hid (a4.isNone = a2.isNone) := hi4
  have HD4 : Hid (a4 = none → tt.length = 0 ∧ c4 = 0) := hd4
  clear hs4 hb4 hi4 hd4
  go_wp2_with fail
  refine (zz_all k1 name part w4.heap.size ss.length c3 a3 (.slice a4 tt.length c4) r ss _ (heap_alloc_new _ _) rfl hc3 HD3.out ((HS3.out.below HB4.out).alloc _) q2 q0 q1).mono ?_
  rintro e w6 ⟨g1, d1, rfl, hP1, hG1, hJ1, hd1⟩
  have HB6 : Hid (Below w'.heap.size w' w6) := trj ((tr (tr (tr HB1.out HB2.out) HB3.out) HB4.out).alloc (tr (tr (tr HB1.out HB2.out) HB3.out) HB4.out).size _) hJ1 (tr (tr (tr HB1.out HB2.out) HB3.out) HB4.out).size
  have hold : (w4.alloc (.cells #[.slice a3 ss.length c3, .slice a4 tt.length c4, .bool r] 33)).heap[w4.heap.size]? = some (.cells #[.slice a3 ss.length c3, .slice a4 tt.length c4, .bool r] 33 (0, 0)) := heap_alloc_new _ _
  have HA1 : Hid (SB w6 a1 ss) := ((((HS1.out.below HB2.out).below HB3.out).below HB4.out).alloc _).jframe hold hJ1
  have HA2 : Hid (SB w6 a2 tt) := (((HS2.out.below HB3.out).below HB4.out).alloc _).jframe hold hJ1
  have HA4 : Hid (SB w6 a4 tt) := (HS4.out.alloc _).jframe hold hJ1
  obtain ⟨P1, hPe1⟩ : ∃ P, P = w4.heap.size := ⟨_, rfl⟩
  rw [← hPe1] at hP1 ⊢
  have HP1 : Hid (w6.heap[P1]? = some (.cells #[.slice (some ⟨g1, 0, none⟩) (ss ++ grants name part).length d1, .slice a4 tt.length c4, .bool r] 33 (0, 0))) := hP1
  have HG1 : Hid (SB w6 (some ⟨g1, 0, none⟩) (ss ++ grants name part)) := hG1
  clear hP1 hG1 hJ1 hold HS1 HS2 HS3 HS4 HB1 HB2 HB3 HB4 hPe1 e0 e1 e2 e3 HR HR' HZ HZ' HN HN' hn1 hn1' hn2 hn2' HI1 HI3 HD3 HD4 hc3 hc1 hc2 hc4
  go_wp2_with fail
  refine (copy_any a1 ss c1 _ HA1.out.rd (fun h => List.eq_nil_of_length_eq_zero (HD1.out h).1) q2).mono ?_
  rintro e w7 ⟨a7, c7, rfl, hi7, hd7, hc7, hs7, hb7⟩
  have HS7 : Hid (SB w7 a7 ss) := hs7
  have HB7 : Hid (Below w6.heap.size w6 w7) := hb7
  have HI7 : Hid (a7.isNone = a1.isNone) := hi7
  have HD7 : Hid (a7 = none → ss.length = 0 ∧ c7 = 0) := hd7
  clear hs7 hb7 hi7 hd7
  go_wp2_with fail
  refine (copy_any a2 tt c2 _ (HA2.out.below HB7.out).rd (fun h => List.eq_nil_of_length_eq_zero (HD2.out h).1) q3).mono ?_
  rintro e w8 ⟨a8, c8, rfl, hi8, hd8, hc8, hs8, hb8⟩
  have HS8 : Hid (SB w8 a8 tt) := hs8
  have HB8 : Hid (Below w7.heap.size w7 w8) := hb8
  have HI8 : Hid (a8.isNone = a2.isNone) := hi8
  have HD8 : Hid (a8 = none → tt.length = 0 ∧ c8 = 0) := hd8
  clear hs8 hb8 hi8 hd8
  go_wp2_with fail
  refine (zz_all k2 name part w8.heap.size ss.length c7 a7 (.slice a8 tt.length c8) r ss _ (heap_alloc_new _ _) rfl hc7 HD7.out ((HS7.out.below HB8.out).alloc _) q2 q0 q1).mono ?_
  rintro e w10 ⟨g2, d2, rfl, hP2, hG2, hJ2, hd2⟩
  have hB8 : Below w'.heap.size w' w8 := tr (tr HB6.out HB7.out) HB8.out
  have HB10 : Hid (Below w'.heap.size w' w10) := trj (hB8.alloc hB8.size _) hJ2 hB8.size
  have hold : (w8.alloc (.cells #[.slice a7 ss.length c7, .slice a8 tt.length c8, .bool r] 33)).heap[w8.heap.size]? = some (.cells #[.slice a7 ss.length c7, .slice a8 tt.length c8, .bool r] 33 (0, 0)) := heap_alloc_new _ _
  have HE1 : Hid (SRd w10 a1 ss) := ((((HA1.out.below HB7.out).below HB8.out).alloc _).jframe hold hJ2).rd
  have HE2 : Hid (SRd w10 a2 tt) := ((((HA2.out.below HB7.out).below HB8.out).alloc _).jframe hold hJ2).rd
  have HE4 : Hid (SRd w10 a4 tt) := ((((HA4.out.below HB7.out).below HB8.out).alloc _).jframe hold hJ2).rd
  have HE8 : Hid (SRd w10 a8 tt) := ((HS8.out.alloc _).jframe hold hJ2).rd
  have HE9 : Hid (SRd w10 (some ⟨g1, 0, none⟩) (ss ++ grants name part)) := ((((HG1.out.below HB7.out).below HB8.out).alloc _).jframe hold hJ2).rd
  have HE10 : Hid (SRd w10 (some ⟨g2, 0, none⟩) (ss ++ grants name part)) := hG2.rd
  have hlt1 := lt_of_block HP1.out
  have hlt7 := HB7.out.size
  have hlt8 := HB8.out.size
  have hF1 : w10.heap[P1]? = some (.cells #[.slice (some ⟨g1, 0, none⟩) (ss ++ grants name part).length d1, .slice a4 tt.length c4, .bool r] 33 (0, 0)) := by
    rw [hJ2.block P1 (by simp; omega) (by omega), Below.heap_alloc _ _ _ (by omega), HB8.out.block P1 (by omega), HB7.out.block P1 hlt1]
    exact HP1.out
  have hi4 : a4.isNone = a2.isNone := HI4.out
  have hi8 : a8.isNone = a2.isNone := HI8.out
  obtain ⟨P2, hPe2⟩ : ∃ P, P = w8.heap.size := ⟨_, rfl⟩
  rw [← hPe2] at hP2 ⊢
  clear hold hJ2 hG2 hB8 hPe2 hlt1 hlt7 hlt8 HB6 HB7 HB8 HA1 HA2 HA4 HP1 HG1 HS7 HS8 HD1 HD2 HD7 HD8 HI2 HI7 HI4 HI8 hc7 hc8 hd2
  obtain ⟨G, hG⟩ : ∃ G, G = grants name part := ⟨_, rfl⟩
  obtain ⟨L, hL⟩ : ∃ L, L = ss ++ G := ⟨_, rfl⟩
  rw [← hG, ← hL] at hF1 hP2 HE9 HE10 hd1
  have hLl : L.length = ss.length + G.length := by rw [hL]; simp
  have hGl := grants_len name part
  rw [← hG] at hGl
  have HDI : Hid (∀ i j, i < j → j < G.length → ((G.getD i ByteArray.empty).toList == (G.getD j ByteArray.empty).toList) = false) := by rw [hG]; exact grants_distinct name part
  have HSZ : Hid (∀ g ∈ G, g.size ≤ 9000000000000000000) := by rw [hG]; exact grants_size name part q0 q1
  have HGD : Hid (natsB name.data.toList = true → (part.toList.isEmpty = true ∨ natsB part.data.toList = true) → ∀ g ∈ G, Good g name) := by rw [hG]; exact good_grants name part
  have HL : Hid (L = ss ++ G) := hL
  have HLL : Hid (L.length = ss.length + G.length) := hLl
  have HGL : Hid (G.length = if anyPart part = true then 10 else 9) := hGl
  have hGb : G.length ≤ 10 := by rw [hGl]; split <;> omega
  have hLb : L.length ≤ 65546 := by omega
  have hLs : ss.length ≤ L.length := by omega
  have hdne : ¬ d1 = ss.length := by have : 9 ≤ G.length := (by rw [hGl]; split <;> omega); omega
  clear hL hLl hGl hG
  have p0 : w10.cell? ⟨P1, 0, none⟩ = some (.slice (some ⟨g1, 0, none⟩) L.length d1) := by simp [World.cell?, hF1]
  have p1 : w10.cell? ⟨P1, 1, none⟩ = some (.slice a4 tt.length c4) := by simp [World.cell?, hF1]
  have p2 : w10.cell? ⟨P1, 2, none⟩ = some (.bool r) := by simp [World.cell?, hF1]
  have p3 : w10.cell? ⟨P2, 0, none⟩ = some (.slice (some ⟨g2, 0, none⟩) L.length d2) := by simp [World.cell?, hP2]
  have p4 : w10.cell? ⟨P2, 1, none⟩ = some (.slice a8 tt.length c8) := by simp [World.cell?, hP2]
  have p5 : w10.cell? ⟨P2, 2, none⟩ = some (.bool r) := by simp [World.cell?, hP2]
  clear hF1 hP2
  go_wp2_with fail
  go_quiet ((go_at_call 18; exact Calls.quiet_of (same_any _ _ L _ _ _ (HE9.out.drewN _) (HE10.out.drewN _) (by omega))))
  have hcase : ∃ m : Nat, L.length = ss.length + m ∧ ((part.toList.isEmpty = true ∧ m = 10) ∨ (part.toList.isEmpty = false ∧ (part.toList == [42]) = true ∧ m = 10) ∨ (part.toList.isEmpty = false ∧ (part.toList == [42]) = false ∧ m = 9)) := by
    refine ⟨G.length, HLL.out, ?_⟩
    rw [HGL.out]
    unfold anyPart
    cases part.toList.isEmpty <;> cases (part.toList == [42]) <;> simp
  obtain ⟨m, hm, hcase⟩ := hcase
  have HM : Hid (L.length = ss.length + m) := hm
  clear hm
  rcases hcase with ⟨c1', rfl⟩ | ⟨c1', c2', rfl⟩ | ⟨c1', c2', rfl⟩
  · have e5 : ((L.length : Int) != (ss.length : Int) + 10) = false := ne_f (by have := HM.out; omega)
    go_wp2
    clear e5
    go_loopw [18] (fun v wr => ∃ i q : Nat, i ≤ ss.length ∧ v = .int .i64 i ∧ wr = w10.drewN q) (fun v _ => ss.length - (intOf v).toNat)
    case atStart => exact ⟨0, _, Nat.zero_le _, rfl, rfl⟩
    case round =>
      obtain ⟨i, q, hi, rfl, rfl⟩ := hrel
      by_cases hlt : i < ss.length
      · obtain ⟨b1, off, ha, hc⟩ := HE1.out.at_ hlt
        have hck := hc i hlt
        have hck' := HE9.out.cells0 i (by omega)
        rw [same_at HL.out hlt] at hck'
        obtain ⟨s, hs⟩ : ∃ s, s = ss.getD i ByteArray.empty := ⟨_, rfl⟩
        rw [← hs] at hck hck'
        clear hs hc
        go_wp2
        go_quiet (fail)
        go_wp2
        go_roundw
        case rel => exact ⟨i + 1, _, by omega, by go_num, rfl⟩
        case measure => simp [intOf]; omega
      · have hq2 := fun w => Lib.run_eql_slice_nil (P := Try.prog) w 22 9 a2 tt.length c2 0 0 Try.underlying22
        have hq4 := fun w => Lib.run_eql_slice_nil (P := Try.prog) w 22 9 a4 tt.length c4 0 0 Try.underlying22
        have hq8 := fun w => Lib.run_eql_slice_nil (P := Try.prog) w 22 9 a8 tt.length c8 0 0 Try.underlying22
        rw [hi4] at hq4
        rw [hi8] at hq8
        clear hi4 hi8
        go_wp2_with fail
        refine (same_any a4 a2 tt c4 c2 _ (HE4.out.drewN _) (HE2.out.drewN _) (by omega)).mono ?_
        rintro e wz ⟨rfl, q1', hw⟩
        rw [World.drewN_drewN] at hw
        subst hw
        go_wp2_with fail
        refine (same_any a8 a2 tt c8 c2 _ (HE8.out.drewN _) (HE2.out.drewN _) (by omega)).mono ?_
        rintro e wz ⟨rfl, q2', hw⟩
        rw [World.drewN_drewN] at hw
        subst hw
        clear hq2 hq4 hq8
        go_wp2_with fail
        have hlen : L.length - ss.length = G.length := by have := HLL.out; omega
        rw [hlen]
        clear hlen
        refine (distinct_any (some ⟨g1, ss.length, none⟩) G (d1 - ss.length) _ ((HE9.out.drop HL.out).drewN _) (by omega) HDI.out).mono ?_
        rintro e wz ⟨rfl, q3', hw⟩
        rw [World.drewN_drewN] at hw
        subst hw
        clear p0 p1 p2 p3 p4 p5
        go_wp2_with fail
        refine (nats_is name _ _ (by omega) rfl).mono ?_
        rintro e wz ⟨rfl, hw⟩
        subst hw
        obtain ⟨bn, hbn⟩ : ∃ b, b = natsB name.data.toList := ⟨_, rfl⟩
        rw [← hbn]
        have HBN : Hid (natsB name.data.toList = bn) := hbn.symm
        clear hbn
        cases bn
        · go_wp2
          go_ret
          exact ⟨rfl, below_drewN HB10.out _⟩
        · have HG : Hid (∀ g ∈ G, Good g name) := HGD.out HBN.out (.inl c1')
          go_wp2_with fail
          go_loop [20] (fun v => ∃ j : Nat, j ≤ G.length ∧ v = .int .i64 j) (fun v => G.length - (intOf v).toNat)
          case atStart => exact ⟨0, Nat.zero_le _, rfl⟩
          case round =>
            obtain ⟨j, hj, rfl⟩ := hrel
            by_cases hltj : j < G.length
            · have hck := HE9.out.cells0 (ss.length + j) (by have := HLL.out; omega)
              rw [drop_at HL.out] at hck
              have hmem := getD_mem hltj
              have hs9 := HSZ.out _ hmem
              obtain ⟨hv, p, hh⟩ := HG.out _ hmem
              obtain ⟨s, hs⟩ : ∃ s, s = G.getD j ByteArray.empty := ⟨_, rfl⟩
              rw [← hs] at hck hs9 hv hh
              have HV : Hid (Valid s.data.toList) := hv
              have HH : Hid (Holds s.data.toList name.data.toList p) := hh
              clear hs hmem hv hh
              go_wp2_with fail
              refine (valid_any s _ hs9 HV.out).mono ?_
              rintro e wz ⟨rfl, hw⟩
              subst hw
              go_wp2_with fail
              refine (has_any s name p _ hs9 HH.out).mono ?_
              rintro e wz ⟨rfl, hw⟩
              subst hw
              go_wp2
              go_round
              case rel => exact ⟨j + 1, by omega, by go_num⟩
              case measure => simp [intOf]; omega
            · go_wp2
              go_ret
              exact ⟨rfl, below_drewN HB10.out _⟩
  · have e5 : ((L.length : Int) != (ss.length : Int) + 10) = false := ne_f (by have := HM.out; omega)
    go_wp2
    clear e5
    go_loopw [18] (fun v wr => ∃ i q : Nat, i ≤ ss.length ∧ v = .int .i64 i ∧ wr = w10.drewN q) (fun v _ => ss.length - (intOf v).toNat)
    case atStart => exact ⟨0, _, Nat.zero_le _, rfl, rfl⟩
    case round =>
      obtain ⟨i, q, hi, rfl, rfl⟩ := hrel
      by_cases hlt : i < ss.length
      · obtain ⟨b1, off, ha, hc⟩ := HE1.out.at_ hlt
        have hck := hc i hlt
        have hck' := HE9.out.cells0 i (by omega)
        rw [same_at HL.out hlt] at hck'
        obtain ⟨s, hs⟩ : ∃ s, s = ss.getD i ByteArray.empty := ⟨_, rfl⟩
        rw [← hs] at hck hck'
        clear hs hc
        go_wp2
        go_quiet (fail)
        go_wp2
        go_roundw
        case rel => exact ⟨i + 1, _, by omega, by go_num, rfl⟩
        case measure => simp [intOf]; omega
      · have hq2 := fun w => Lib.run_eql_slice_nil (P := Try.prog) w 22 9 a2 tt.length c2 0 0 Try.underlying22
        have hq4 := fun w => Lib.run_eql_slice_nil (P := Try.prog) w 22 9 a4 tt.length c4 0 0 Try.underlying22
        have hq8 := fun w => Lib.run_eql_slice_nil (P := Try.prog) w 22 9 a8 tt.length c8 0 0 Try.underlying22
        rw [hi4] at hq4
        rw [hi8] at hq8
        clear hi4 hi8
        go_wp2_with fail
        refine (same_any a4 a2 tt c4 c2 _ (HE4.out.drewN _) (HE2.out.drewN _) (by omega)).mono ?_
        rintro e wz ⟨rfl, q1', hw⟩
        rw [World.drewN_drewN] at hw
        subst hw
        go_wp2_with fail
        refine (same_any a8 a2 tt c8 c2 _ (HE8.out.drewN _) (HE2.out.drewN _) (by omega)).mono ?_
        rintro e wz ⟨rfl, q2', hw⟩
        rw [World.drewN_drewN] at hw
        subst hw
        clear hq2 hq4 hq8
        go_wp2_with fail
        have hlen : L.length - ss.length = G.length := by have := HLL.out; omega
        rw [hlen]
        clear hlen
        refine (distinct_any (some ⟨g1, ss.length, none⟩) G (d1 - ss.length) _ ((HE9.out.drop HL.out).drewN _) (by omega) HDI.out).mono ?_
        rintro e wz ⟨rfl, q3', hw⟩
        rw [World.drewN_drewN] at hw
        subst hw
        clear p0 p1 p2 p3 p4 p5
        go_wp2_with fail
        refine (nats_is name _ _ (by omega) rfl).mono ?_
        rintro e wz ⟨rfl, hw⟩
        subst hw
        obtain ⟨bn, hbn⟩ : ∃ b, b = natsB name.data.toList := ⟨_, rfl⟩
        rw [← hbn]
        have HBN : Hid (natsB name.data.toList = bn) := hbn.symm
        clear hbn
        cases bn
        · go_wp2
          go_ret
          exact ⟨rfl, below_drewN HB10.out _⟩
        · go_wp2_with fail
          refine (nats_is part _ _ (by omega) rfl).mono ?_
          rintro e wz ⟨rfl, hw⟩
          subst hw
          obtain ⟨bp, hbp⟩ : ∃ b, b = natsB part.data.toList := ⟨_, rfl⟩
          rw [← hbp]
          have HBP : Hid (natsB part.data.toList = bp) := hbp.symm
          clear hbp
          cases bp
          · go_wp2
            go_ret
            exact ⟨rfl, below_drewN HB10.out _⟩
          · have HG : Hid (∀ g ∈ G, Good g name) := HGD.out HBN.out (.inr HBP.out)
            go_wp2_with fail
            go_loop [20] (fun v => ∃ j : Nat, j ≤ G.length ∧ v = .int .i64 j) (fun v => G.length - (intOf v).toNat)
            case atStart => exact ⟨0, Nat.zero_le _, rfl⟩
            case round =>
              obtain ⟨j, hj, rfl⟩ := hrel
              by_cases hltj : j < G.length
              · have hck := HE9.out.cells0 (ss.length + j) (by have := HLL.out; omega)
                rw [drop_at HL.out] at hck
                have hmem := getD_mem hltj
                have hs9 := HSZ.out _ hmem
                obtain ⟨hv, p, hh⟩ := HG.out _ hmem
                obtain ⟨s, hs⟩ : ∃ s, s = G.getD j ByteArray.empty := ⟨_, rfl⟩
                rw [← hs] at hck hs9 hv hh
                have HV : Hid (Valid s.data.toList) := hv
                have HH : Hid (Holds s.data.toList name.data.toList p) := hh
                clear hs hmem hv hh
                go_wp2_with fail
                refine (valid_any s _ hs9 HV.out).mono ?_
                rintro e wz ⟨rfl, hw⟩
                subst hw
                go_wp2_with fail
                refine (has_any s name p _ hs9 HH.out).mono ?_
                rintro e wz ⟨rfl, hw⟩
                subst hw
                go_wp2
                go_round
                case rel => exact ⟨j + 1, by omega, by go_num⟩
                case measure => simp [intOf]; omega
              · go_wp2
                go_ret
                exact ⟨rfl, below_drewN HB10.out _⟩
  · have e5 : ((L.length : Int) != (ss.length : Int) + 9) = false := ne_f (by have := HM.out; omega)
    go_wp2
    clear e5
    go_loopw [18] (fun v wr => ∃ i q : Nat, i ≤ ss.length ∧ v = .int .i64 i ∧ wr = w10.drewN q) (fun v _ => ss.length - (intOf v).toNat)
    case atStart => exact ⟨0, _, Nat.zero_le _, rfl, rfl⟩
    case round =>
      obtain ⟨i, q, hi, rfl, rfl⟩ := hrel
      by_cases hlt : i < ss.length
      · obtain ⟨b1, off, ha, hc⟩ := HE1.out.at_ hlt
        have hck := hc i hlt
        have hck' := HE9.out.cells0 i (by omega)
        rw [same_at HL.out hlt] at hck'
        obtain ⟨s, hs⟩ : ∃ s, s = ss.getD i ByteArray.empty := ⟨_, rfl⟩
        rw [← hs] at hck hck'
        clear hs hc
        go_wp2
        go_quiet (fail)
        go_wp2
        go_roundw
        case rel => exact ⟨i + 1, _, by omega, by go_num, rfl⟩
        case measure => simp [intOf]; omega
      · have hq2 := fun w => Lib.run_eql_slice_nil (P := Try.prog) w 22 9 a2 tt.length c2 0 0 Try.underlying22
        have hq4 := fun w => Lib.run_eql_slice_nil (P := Try.prog) w 22 9 a4 tt.length c4 0 0 Try.underlying22
        have hq8 := fun w => Lib.run_eql_slice_nil (P := Try.prog) w 22 9 a8 tt.length c8 0 0 Try.underlying22
        rw [hi4] at hq4
        rw [hi8] at hq8
        clear hi4 hi8
        go_wp2_with fail
        refine (same_any a4 a2 tt c4 c2 _ (HE4.out.drewN _) (HE2.out.drewN _) (by omega)).mono ?_
        rintro e wz ⟨rfl, q1', hw⟩
        rw [World.drewN_drewN] at hw
        subst hw
        go_wp2_with fail
        refine (same_any a8 a2 tt c8 c2 _ (HE8.out.drewN _) (HE2.out.drewN _) (by omega)).mono ?_
        rintro e wz ⟨rfl, q2', hw⟩
        rw [World.drewN_drewN] at hw
        subst hw
        clear hq2 hq4 hq8
        go_wp2_with fail
        have hlen : L.length - ss.length = G.length := by have := HLL.out; omega
        rw [hlen]
        clear hlen
        refine (distinct_any (some ⟨g1, ss.length, none⟩) G (d1 - ss.length) _ ((HE9.out.drop HL.out).drewN _) (by omega) HDI.out).mono ?_
        rintro e wz ⟨rfl, q3', hw⟩
        rw [World.drewN_drewN] at hw
        subst hw
        clear p0 p1 p2 p3 p4 p5
        go_wp2_with fail
        refine (nats_is name _ _ (by omega) rfl).mono ?_
        rintro e wz ⟨rfl, hw⟩
        subst hw
        obtain ⟨bn, hbn⟩ : ∃ b, b = natsB name.data.toList := ⟨_, rfl⟩
        rw [← hbn]
        have HBN : Hid (natsB name.data.toList = bn) := hbn.symm
        clear hbn
        cases bn
        · go_wp2
          go_ret
          exact ⟨rfl, below_drewN HB10.out _⟩
        · go_wp2_with fail
          refine (nats_is part _ _ (by omega) rfl).mono ?_
          rintro e wz ⟨rfl, hw⟩
          subst hw
          obtain ⟨bp, hbp⟩ : ∃ b, b = natsB part.data.toList := ⟨_, rfl⟩
          rw [← hbp]
          have HBP : Hid (natsB part.data.toList = bp) := hbp.symm
          clear hbp
          cases bp
          · go_wp2
            go_ret
            exact ⟨rfl, below_drewN HB10.out _⟩
          · have HG : Hid (∀ g ∈ G, Good g name) := HGD.out HBN.out (.inr HBP.out)
            go_wp2_with fail
            go_loop [20] (fun v => ∃ j : Nat, j ≤ G.length ∧ v = .int .i64 j) (fun v => G.length - (intOf v).toNat)
            case atStart => exact ⟨0, Nat.zero_le _, rfl⟩
            case round =>
              obtain ⟨j, hj, rfl⟩ := hrel
              by_cases hltj : j < G.length
              · have hck := HE9.out.cells0 (ss.length + j) (by have := HLL.out; omega)
                rw [drop_at HL.out] at hck
                have hmem := getD_mem hltj
                have hs9 := HSZ.out _ hmem
                obtain ⟨hv, p, hh⟩ := HG.out _ hmem
                obtain ⟨s, hs⟩ : ∃ s, s = G.getD j ByteArray.empty := ⟨_, rfl⟩
                rw [← hs] at hck hs9 hv hh
                have HV : Hid (Valid s.data.toList) := hv
                have HH : Hid (Holds s.data.toList name.data.toList p) := hh
                clear hs hmem hv hh
                go_wp2_with fail
                refine (valid_any s _ hs9 HV.out).mono ?_
                rintro e wz ⟨rfl, hw⟩
                subst hw
                go_wp2_with fail
                refine (has_any s name p _ hs9 HH.out).mono ?_
                rintro e wz ⟨rfl, hw⟩
                subst hw
                go_wp2
                go_round
                case rel => exact ⟨j + 1, by omega, by go_num⟩
                case measure => simp [intOf]; omega
              · go_wp2
                go_ret
                exact ⟨rfl, below_drewN HB10.out _⟩
end Go.Proofs.Qxb6602990a
