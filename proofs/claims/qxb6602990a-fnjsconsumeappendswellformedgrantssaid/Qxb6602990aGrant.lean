import Derived.Test.Qxb6602990aMakes
namespace Go.Proofs.Qxb6602990a
open Go.RowKit Go.Proofs.Qxb6602990a.Plain

def anyG (s : ByteArray) : List ByteArray := [({ data := #[36, 74, 83, 46, 65, 80, 73, 46, 67, 79, 78, 83, 85, 77, 69, 82, 46, 42, 46] } : ByteArray) ++ s, ({ data := #[36, 74, 83, 46, 65, 80, 73, 46, 67, 79, 78, 83, 85, 77, 69, 82, 46, 42, 46] } : ByteArray) ++ s ++ { data := #[46, 62] }, ({ data := #[36, 74, 83, 46, 65, 80, 73, 46, 67, 79, 78, 83, 85, 77, 69, 82, 46, 68, 85, 82, 65, 66, 76, 69, 46, 67, 82, 69, 65, 84, 69, 46] } : ByteArray) ++ s ++ { data := #[46, 62] }, ({ data := #[36, 74, 83, 46, 65, 80, 73, 46, 67, 79, 78, 83, 85, 77, 69, 82, 46, 77, 83, 71, 46, 78, 69, 88, 84, 46] } : ByteArray) ++ s ++ { data := #[46, 42] }, ({ data := #[36, 74, 83, 46, 65, 67, 75, 46] } : ByteArray) ++ s ++ { data := #[46, 62] }]
def namG (s c : ByteArray) : List ByteArray := [({ data := #[36, 74, 83, 46, 65, 80, 73, 46, 67, 79, 78, 83, 85, 77, 69, 82, 46, 73, 78, 70, 79, 46] } : ByteArray) ++ s ++ { data := #[46] } ++ c, ({ data := #[36, 74, 83, 46, 65, 80, 73, 46, 67, 79, 78, 83, 85, 77, 69, 82, 46, 68, 85, 82, 65, 66, 76, 69, 46, 67, 82, 69, 65, 84, 69, 46] } : ByteArray) ++ s ++ { data := #[46] } ++ c, ({ data := #[36, 74, 83, 46, 65, 80, 73, 46, 67, 79, 78, 83, 85, 77, 69, 82, 46, 77, 83, 71, 46, 78, 69, 88, 84, 46] } : ByteArray) ++ s ++ { data := #[46] } ++ c, ({ data := #[36, 74, 83, 46, 65, 67, 75, 46] } : ByteArray) ++ s ++ { data := #[46] } ++ c ++ { data := #[46, 62] }]
def allG (s : ByteArray) : List ByteArray := [({ data := #[36, 74, 83, 46, 83, 78, 65, 80, 83, 72, 79, 84, 46, 82, 69, 83, 84, 79, 82, 69, 46] } : ByteArray) ++ s ++ { data := #[46, 42] }, ({ data := #[36, 74, 83, 46, 83, 78, 65, 80, 83, 72, 79, 84, 46, 65, 67, 75, 46] } : ByteArray) ++ s ++ { data := #[46, 42] }, ({ data := #[36, 74, 83, 46, 70, 67, 46] } : ByteArray) ++ s ++ { data := #[46, 62] }, ({ data := #[36, 74, 83, 46, 65, 80, 73, 46, 68, 73, 82, 69, 67, 84, 46, 71, 69, 84, 46] } : ByteArray) ++ s, ({ data := #[36, 74, 83, 46, 65, 80, 73, 46, 68, 73, 82, 69, 67, 84, 46, 71, 69, 84, 46] } : ByteArray) ++ s ++ { data := #[46, 62] }]

theorem SB.olds {w W : World} {a : Option Addr} {ss : List ByteArray} (h : SB w a ss) (hk : ∀ k, k < w.heap.size → W.heap[k]? = w.heap[k]?) :
    ∀ b, a = some b → ∀ j u, (ss.map Value.string)[j]? = some u → W.cell? (b.add j) = some u := by
  intro b hb j u hj
  have hjl : j < ss.length := by
    rcases Nat.lt_or_ge j ss.length with c | c
    · exact c
    · rw [List.getElem?_eq_none (by simpa using c)] at hj; cases hj
  rcases h with h | ⟨g, C, fr, ha, hg, hc⟩
  · subst h; simp at hjl
  · rw [ha] at hb
    cases hb
    have e0 : (⟨g, 0, none⟩ : Addr).add j = ⟨g, j, none⟩ := by unfold Addr.add; split <;> simp_all
    have hg' := hk g (lt_of_block hg)
    rw [hg] at hg'
    rw [e0]
    simp only [World.cell?, hg']
    have e1 : ss.getD j ByteArray.empty = ss[j] := by rw [List.getD, List.getElem?_eq_getElem hjl]; rfl
    rw [List.getElem?_map, List.getElem?_eq_getElem hjl] at hj
    simp only [Option.map_some, Option.some.injEq] at hj
    have := hc j hjl
    rw [e1, hj] at this
    simpa using this

/-- The cells of a row that has just been laid. -/
theorem new_cells (w : World) (l : List Value) (C : Array Value) (t : TypeId) (g : Nat) (hg : g = w.heap.size) (hC : C = l.toArray) : ∀ j u, l[j]? = some u → (w.alloc (.cells C t)).cell? ((⟨g, 0, none⟩ : Addr).add j) = some u := by
  intro j u h
  subst hg hC
  have e0 : (⟨w.heap.size, 0, none⟩ : Addr).add j = ⟨w.heap.size, j, none⟩ := by unfold Addr.add; split <;> simp_all
  rw [e0]
  have := heap_alloc_new w (.cells l.toArray t)
  simp only [World.cell?, this]
  simpa using h

theorem own_form {w : World} {base n : Nat} {v : Value} {xs : List Value} (h : w.ownsRow base 9 1 v n xs) (hn : 0 < n) : ∃ g cap, v = .slice (some ⟨g, 0, none⟩) n cap := by
  obtain ⟨_, h | ⟨g, cap, _, hv, _⟩⟩ := h
  · omega
  · exact ⟨g, cap, hv⟩

theorem one_cells (l : List ByteArray) : ∀ u ∈ l.map Value.string, u.oneCell' = true := by
  intro u hu
  obtain ⟨s, _, rfl⟩ := List.mem_map.1 hu
  rfl

/-- Of the blocks that were there none has turned but P. -/
structure JFrame (P : Nat) (w w' : World) : Prop where
  os : w'.os = w.os
  tape : w'.tape = w.tape
  output : w'.output = w.output
  size : w.heap.size ≤ w'.heap.size
  block : ∀ k, k < w.heap.size → k ≠ P → w'.heap[k]? = w.heap[k]?

theorem own_base {w : World} {base n g cap m : Nat} {xs : List Value} (h : w.ownsRow base 9 1 (.slice (some ⟨g, 0, none⟩) n cap) m xs) : base ≤ g := by
  obtain ⟨_, h | ⟨g', cap', _, hv, hg, _⟩⟩ := h
  · simp at h
  · simp at hv
    omega

theorem js_mid {w w1 w2 : World} {A B C : Obj} {P n1 g cap1 : Nat} {v0 sv : Value} {r : Bool} {xs : List Value}
    (hP : w.heap[P]? = some (.cells #[v0, sv, .bool r] 33 (0, 0))) (hg1 : ((w.alloc A).alloc B).grownBy w1 none)
    (ho1 : w1.ownsRow (w.heap.size + 1 + 1) 9 1 (.slice (some ⟨g, 0, none⟩) n1 cap1) n1 xs)
    (hg2 : ((w1.setCell ⟨P, 0, none⟩ (.slice (some ⟨g, 0, none⟩) n1 cap1)).alloc C).grownBy w2 (some g)) :
    w2.heap[P]? = some (.cells #[.slice (some ⟨g, 0, none⟩) n1 cap1, sv, .bool r] 33 (0, 0)) ∧ ∀ k, k < w.heap.size → k ≠ P → w2.heap[k]? = w.heap[k]? := by
  have hPl := lt_of_block hP
  have hb := own_base ho1
  have hs1 := hg1.size
  simp at hs1
  have h1 : ∀ k, k < w.heap.size → w1.heap[k]? = w.heap[k]? := fun k hk => by
    rw [hg1.block k (by simp; omega) (by simp), Below.heap_alloc _ _ _ (by simp; omega), Below.heap_alloc _ _ _ hk]
  have hs2 := hg2.size
  constructor
  · rw [hg2.block P (by simp; omega) (by simp; omega), Below.heap_alloc _ _ _ (by simp; omega)]
    have := heap_setCell_same w1 P 0 _ _ (.slice (some ⟨g, 0, none⟩) n1 cap1) ((h1 P hPl).trans hP)
    rw [this]
    rfl
  · intro k hk hne
    rw [hg2.block k (by simp; omega) (by simp; omega), Below.heap_alloc _ _ _ (by simp; omega), heap_setCell_other _ _ _ _ hne]
    exact h1 k hk

theorem js_end {w w1 w2 : World} {A B C : Obj} {P n1 g cap1 n2 g2 cap2 : Nat} {v0 sv : Value} {r : Bool} {xs : List Value} {G : List ByteArray}
    (hP : w.heap[P]? = some (.cells #[v0, sv, .bool r] 33 (0, 0))) (hg1 : ((w.alloc A).alloc B).grownBy w1 none)
    (ho1 : w1.ownsRow (w.heap.size + 1 + 1) 9 1 (.slice (some ⟨g, 0, none⟩) n1 cap1) n1 xs)
    (hg2 : ((w1.setCell ⟨P, 0, none⟩ (.slice (some ⟨g, 0, none⟩) n1 cap1)).alloc C).grownBy w2 (some g))
    (ho2 : w2.ownsRow (w.heap.size + 1 + 1) 9 1 (.slice (some ⟨g2, 0, none⟩) n2 cap2) n2 (G.map Value.string)) (hn2 : n2 = G.length) :
    (w2.setCell ⟨P, 0, none⟩ (.slice (some ⟨g2, 0, none⟩) n2 cap2)).heap[P]? = some (.cells #[.slice (some ⟨g2, 0, none⟩) G.length cap2, sv, .bool r] 33 (0, 0)) ∧
      SB (w2.setCell ⟨P, 0, none⟩ (.slice (some ⟨g2, 0, none⟩) n2 cap2)) (some ⟨g2, 0, none⟩) G ∧ JFrame P w (w2.setCell ⟨P, 0, none⟩ (.slice (some ⟨g2, 0, none⟩) n2 cap2)) ∧ G.length ≤ cap2 := by
  have hPl := lt_of_block hP
  obtain ⟨m1, m2⟩ := js_mid hP hg1 ho1 hg2
  have hb2 := own_base ho2
  have hs1 := hg1.size
  have hs2 := hg2.size
  simp at hs1 hs2
  subst hn2
  have hcap : G.length ≤ cap2 := by
    obtain ⟨_, h | ⟨g', cap', cur, hv, _, _, hle, _⟩⟩ := ho2
    · simp at h
    · simp at hv
      omega
  refine ⟨?_, ?_, ?_, hcap⟩
  · rw [heap_setCell_same w2 P 0 _ _ _ m1]
    rfl
  · obtain ⟨_, h | ⟨g', cap', cur, hv, hg, hh, _, _, hcs, htk⟩⟩ := ho2
    · simp at h
    · simp at hv
      obtain ⟨rfl, rfl⟩ := hv
      refine .inr ⟨g2, cur, (0, 0), rfl, ?_, fun j hj => ?_⟩
      · rw [heap_setCell_other _ _ _ _ (by show g2 ≠ P; omega)]
        exact hh
      · have e : (cur.toList.take (G.length * 1))[j]? = (G.map Value.string)[j]? := by rw [htk]
        rw [List.getElem?_take_of_lt (by omega), List.getElem?_map, List.getElem?_eq_getElem hj, Array.getElem?_toList] at e
        have e1 : G.getD j ByteArray.empty = G[j] := by rw [List.getD, List.getElem?_eq_getElem hj]; rfl
        rw [e, e1]
        rfl
  · refine ⟨?_, ?_, ?_, ?_, fun k hk hne => ?_⟩
    · show w2.os = w.os
      rw [hg2.os]; show w1.os = _; rw [hg1.os]; rfl
    · show w2.tape = w.tape
      rw [hg2.tape]; show w1.tape = _; rw [hg1.tape]; rfl
    · show w2.output = w.output
      rw [hg2.output]; show w1.output = _; rw [hg1.output]; rfl
    · simp; omega
    · rw [heap_setCell_other _ _ _ _ hne]
      exact m2 k hk hne

set_option maxHeartbeats 400000 in
theorem js_any (kind : Int) (name part : ByteArray) (P n c : Nat) (a : Option Addr) (sv : Value) (r : Bool) (ss : List ByteArray) (w : World)
    (hP : w.heap[P]? = some (.cells #[.slice a n c, sv, .bool r] 33 (0, 0))) (hn : n = ss.length) (hcn : c ≤ n) (hnone : a = none → n = 0 ∧ c = 0) (hb : SB w a ss)
    (hl : ss.length ≤ 65536) (hname : name.size ≤ 65536) (hpart : part.toList.isEmpty = true) :
    Calls Try.prog 38 #[.agg #[.int .i64 kind, .string name, .string part], .pointer (some ⟨P, 0, none⟩)] w fun e w' => ∃ g' c', e = .returned (.tuple #[]) ∧ w'.heap[P]? = some (.cells #[.slice (some ⟨g', 0, none⟩) (ss ++ (anyG name ++ allG name)).length c', sv, .bool r] 33 (0, 0)) ∧ SB w' (some ⟨g', 0, none⟩) (ss ++ (anyG name ++ allG name)) ∧ JFrame P w w' ∧ (ss ++ (anyG name ++ allG name)).length ≤ c' := by
  have hPlt : P < w.heap.size := lt_of_block hP
  have hc0 : w.cell? ⟨P, 0, none⟩ = some (.slice a n c) := by simp [World.cell?, hP]
  have hf0 : w.frozen? ⟨P, 0, none⟩ = false := by simp [World.frozen?, hP]
  have HP : Hid (w.heap[P]? = some (.cells #[.slice a n c, sv, .bool r] 33 (0, 0))) := hP
  have HB : Hid (SB w a ss) := hb
  have HN : Hid (n = ss.length) := hn
  clear hP hb hn
  obtain ⟨i0, hi, hz0, hz1, hz2⟩ := info_parts Try.info9
  have hlen : (ss.map Value.string).length = n * 1 := by rw [HN.out]; simp
  have hlen' : n + 5 ≤ 65541 := by have := HN.out; omega
  go_enter Try.func38, Try.ntmps38
  go_wp2_with (at_builtin; refine wpList_append_grows _ rfl (.tmp 20) (.tmp 35) 22 rfl 9 i0 (.string ByteArray.empty) 1 16 Try.underlying22 hi hz0 hz1 hz2 rfl (by decide) a n c (ss.map Value.string) rfl hnone hlen ?olds ⟨w.heap.size + 1, 0, none⟩ 5 5 ((anyG name).map Value.string) rfl rfl ?news (one_cells _) ?full ?b1 ?b2 ?_)
  case olds => exact HB.out.olds (fun k hk => by rw [Below.heap_alloc _ _ _ (by simp; omega), Below.heap_alloc _ _ _ hk])
  case news => exact new_cells _ ((anyG name).map Value.string) _ 9 _ (by simp) rfl
  case full => omega
  case b1 => unfold maxLen; omega
  case b2 => omega
  · intro v1 w1 hown hgrow
    obtain ⟨g, cap1, hv1⟩ := own_form hown (by omega)
    rw [hv1] at hown ⊢
    clear hv1
    have hb1 : w1.heap[P]? = some (.cells #[.slice a n c, sv, .bool r] 33 (0, 0)) := by
      rw [hgrow.block P (by simp; omega) (by simp), Below.heap_alloc _ _ _ (by simp; omega), Below.heap_alloc _ _ _ hPlt]; exact HP.out
    have hc1 : w1.cell? ⟨P, 0, none⟩ = some (.slice a n c) := by simp [World.cell?, hb1]
    have hf1 : w1.frozen? ⟨P, 0, none⟩ = false := by simp [World.frozen?, hb1]
    have hsz1 : w.heap.size + 2 ≤ w1.heap.size := by have := hgrow.size; simp at this; omega
    have hP1 : P < w1.heap.size := by omega
    have HG : Hid (((w.alloc (.cells #[.int .i64 kind, .string name, .string part] 37)).alloc (.cells ((anyG name).map Value.string).toArray 9)).grownBy w1 none) := hgrow
    have HO : Hid (w1.ownsRow (w.heap.size + 1 + 1) 9 1 (.slice (some ⟨g, 0, none⟩) (n + 5) cap1) (n + 5) (ss.map Value.string ++ (anyG name).map Value.string)) := hown
    clear hb1 hgrow hown hc0 hf0 hnone hlen
    go_wp2_with (at_builtin; refine wpList_append_own _ rfl (.tmp 75) (.tmp 90) 22 rfl (w.heap.size + 1 + 1) 9 i0 (.string ByteArray.empty) 1 16 Try.underlying22 hi hz0 hz1 hz2 rfl (by decide) (.slice (some ⟨g, 0, none⟩) (n + 5) cap1) (n + 5) (ss.map Value.string ++ (anyG name).map Value.string) rfl ((ownsRow_setCell_below HO.out (a := ⟨P, 0, none⟩) (by show P < _; omega) _).alloc _) ⟨w1.heap.size, 0, none⟩ 5 5 ((allG name).map Value.string) rfl rfl ?news2 (one_cells _) ?b12 ?b22 ?base2 ?_)
    case news2 => exact new_cells _ ((allG name).map Value.string) _ 9 _ (by simp) rfl
    case b12 => unfold maxLen; omega
    case b22 => omega
    case base2 => simp; omega
    · intro v2 w2 hown2 hgrow2 _
      obtain ⟨g2, cap2, hv2⟩ := own_form hown2 (by omega)
      rw [hv2] at hown2 ⊢
      clear hv2
      have hfin : w2.ownsRow (w.heap.size + 1 + 1) 9 1 (.slice (some ⟨g2, 0, none⟩) (n + 5 + 5) cap2) (n + 5 + 5) ((ss ++ (anyG name ++ allG name)).map Value.string) := by
        rw [List.map_append, List.map_append]; exact hown2
      have hcount : n + 5 + 5 = (ss ++ (anyG name ++ allG name)).length := by rw [HN.out]; simp [anyG, allG]
      obtain ⟨m1, _⟩ := js_mid HP.out HG.out HO.out hgrow2
      have hend := js_end HP.out HG.out HO.out hgrow2 hfin hcount
      have HE : Hid _ := hend
      have hc2 : w2.cell? ⟨P, 0, none⟩ = some (.slice (some ⟨g, 0, none⟩) (n + 5) cap1) := by simp [World.cell?, m1]
      have hf2 : w2.frozen? ⟨P, 0, none⟩ = false := by simp [World.frozen?, m1]
      clear hend hcount hfin m1 hgrow2 hown2 hc1 hf1
      go_wp2
      go_end0
      exact ⟨g2, cap2, rfl, HE.out⟩
set_option maxHeartbeats 400000 in
theorem js_star (kind : Int) (name part : ByteArray) (P n c : Nat) (a : Option Addr) (sv : Value) (r : Bool) (ss : List ByteArray) (w : World)
    (hP : w.heap[P]? = some (.cells #[.slice a n c, sv, .bool r] 33 (0, 0))) (hn : n = ss.length) (hcn : c ≤ n) (hnone : a = none → n = 0 ∧ c = 0) (hb : SB w a ss)
    (hl : ss.length ≤ 65536) (hname : name.size ≤ 65536) (hpart : part.toList.isEmpty = false) (hstar : (part.toList == [42]) = true) :
    Calls Try.prog 38 #[.agg #[.int .i64 kind, .string name, .string part], .pointer (some ⟨P, 0, none⟩)] w fun e w' => ∃ g' c', e = .returned (.tuple #[]) ∧ w'.heap[P]? = some (.cells #[.slice (some ⟨g', 0, none⟩) (ss ++ (anyG name ++ allG name)).length c', sv, .bool r] 33 (0, 0)) ∧ SB w' (some ⟨g', 0, none⟩) (ss ++ (anyG name ++ allG name)) ∧ JFrame P w w' ∧ (ss ++ (anyG name ++ allG name)).length ≤ c' := by
  have hPlt : P < w.heap.size := lt_of_block hP
  have hc0 : w.cell? ⟨P, 0, none⟩ = some (.slice a n c) := by simp [World.cell?, hP]
  have hf0 : w.frozen? ⟨P, 0, none⟩ = false := by simp [World.frozen?, hP]
  have HP : Hid (w.heap[P]? = some (.cells #[.slice a n c, sv, .bool r] 33 (0, 0))) := hP
  have HB : Hid (SB w a ss) := hb
  have HN : Hid (n = ss.length) := hn
  clear hP hb hn
  obtain ⟨i0, hi, hz0, hz1, hz2⟩ := info_parts Try.info9
  have hlen : (ss.map Value.string).length = n * 1 := by rw [HN.out]; simp
  have hlen' : n + 5 ≤ 65541 := by have := HN.out; omega
  go_enter Try.func38, Try.ntmps38
  go_wp2_with (at_builtin; refine wpList_append_grows _ rfl (.tmp 20) (.tmp 35) 22 rfl 9 i0 (.string ByteArray.empty) 1 16 Try.underlying22 hi hz0 hz1 hz2 rfl (by decide) a n c (ss.map Value.string) rfl hnone hlen ?olds ⟨w.heap.size + 1, 0, none⟩ 5 5 ((anyG name).map Value.string) rfl rfl ?news (one_cells _) ?full ?b1 ?b2 ?_)
  case olds => exact HB.out.olds (fun k hk => by rw [Below.heap_alloc _ _ _ (by simp; omega), Below.heap_alloc _ _ _ hk])
  case news => exact new_cells _ ((anyG name).map Value.string) _ 9 _ (by simp) rfl
  case full => omega
  case b1 => unfold maxLen; omega
  case b2 => omega
  · intro v1 w1 hown hgrow
    obtain ⟨g, cap1, hv1⟩ := own_form hown (by omega)
    rw [hv1] at hown ⊢
    clear hv1
    have hb1 : w1.heap[P]? = some (.cells #[.slice a n c, sv, .bool r] 33 (0, 0)) := by
      rw [hgrow.block P (by simp; omega) (by simp), Below.heap_alloc _ _ _ (by simp; omega), Below.heap_alloc _ _ _ hPlt]; exact HP.out
    have hc1 : w1.cell? ⟨P, 0, none⟩ = some (.slice a n c) := by simp [World.cell?, hb1]
    have hf1 : w1.frozen? ⟨P, 0, none⟩ = false := by simp [World.frozen?, hb1]
    have hsz1 : w.heap.size + 2 ≤ w1.heap.size := by have := hgrow.size; simp at this; omega
    have hP1 : P < w1.heap.size := by omega
    have HG : Hid (((w.alloc (.cells #[.int .i64 kind, .string name, .string part] 37)).alloc (.cells ((anyG name).map Value.string).toArray 9)).grownBy w1 none) := hgrow
    have HO : Hid (w1.ownsRow (w.heap.size + 1 + 1) 9 1 (.slice (some ⟨g, 0, none⟩) (n + 5) cap1) (n + 5) (ss.map Value.string ++ (anyG name).map Value.string)) := hown
    clear hb1 hgrow hown hc0 hf0 hnone hlen
    go_wp2_with (at_builtin; refine wpList_append_own _ rfl (.tmp 75) (.tmp 90) 22 rfl (w.heap.size + 1 + 1) 9 i0 (.string ByteArray.empty) 1 16 Try.underlying22 hi hz0 hz1 hz2 rfl (by decide) (.slice (some ⟨g, 0, none⟩) (n + 5) cap1) (n + 5) (ss.map Value.string ++ (anyG name).map Value.string) rfl ((ownsRow_setCell_below HO.out (a := ⟨P, 0, none⟩) (by show P < _; omega) _).alloc _) ⟨w1.heap.size, 0, none⟩ 5 5 ((allG name).map Value.string) rfl rfl ?news2 (one_cells _) ?b12 ?b22 ?base2 ?_)
    case news2 => exact new_cells _ ((allG name).map Value.string) _ 9 _ (by simp) rfl
    case b12 => unfold maxLen; omega
    case b22 => omega
    case base2 => simp; omega
    · intro v2 w2 hown2 hgrow2 _
      obtain ⟨g2, cap2, hv2⟩ := own_form hown2 (by omega)
      rw [hv2] at hown2 ⊢
      clear hv2
      have hfin : w2.ownsRow (w.heap.size + 1 + 1) 9 1 (.slice (some ⟨g2, 0, none⟩) (n + 5 + 5) cap2) (n + 5 + 5) ((ss ++ (anyG name ++ allG name)).map Value.string) := by
        rw [List.map_append, List.map_append]; exact hown2
      have hcount : n + 5 + 5 = (ss ++ (anyG name ++ allG name)).length := by rw [HN.out]; simp [anyG, allG]
      obtain ⟨m1, _⟩ := js_mid HP.out HG.out HO.out hgrow2
      have hend := js_end HP.out HG.out HO.out hgrow2 hfin hcount
      have HE : Hid _ := hend
      have hc2 : w2.cell? ⟨P, 0, none⟩ = some (.slice (some ⟨g, 0, none⟩) (n + 5) cap1) := by simp [World.cell?, m1]
      have hf2 : w2.frozen? ⟨P, 0, none⟩ = false := by simp [World.frozen?, m1]
      clear hend hcount hfin m1 hgrow2 hown2 hc1 hf1
      go_wp2
      go_end0
      exact ⟨g2, cap2, rfl, HE.out⟩
set_option maxHeartbeats 400000 in
theorem js_named (kind : Int) (name part : ByteArray) (P n c : Nat) (a : Option Addr) (sv : Value) (r : Bool) (ss : List ByteArray) (w : World)
    (hP : w.heap[P]? = some (.cells #[.slice a n c, sv, .bool r] 33 (0, 0))) (hn : n = ss.length) (hcn : c ≤ n) (hnone : a = none → n = 0 ∧ c = 0) (hb : SB w a ss)
    (hl : ss.length ≤ 65536) (hname : name.size ≤ 65536) (hsize : part.size ≤ 65536) (hpart : part.toList.isEmpty = false) (hstar : (part.toList == [42]) = false) :
    Calls Try.prog 38 #[.agg #[.int .i64 kind, .string name, .string part], .pointer (some ⟨P, 0, none⟩)] w fun e w' => ∃ g' c', e = .returned (.tuple #[]) ∧ w'.heap[P]? = some (.cells #[.slice (some ⟨g', 0, none⟩) (ss ++ (namG name part ++ allG name)).length c', sv, .bool r] 33 (0, 0)) ∧ SB w' (some ⟨g', 0, none⟩) (ss ++ (namG name part ++ allG name)) ∧ JFrame P w w' ∧ (ss ++ (namG name part ++ allG name)).length ≤ c' := by
  have hPlt : P < w.heap.size := lt_of_block hP
  have hc0 : w.cell? ⟨P, 0, none⟩ = some (.slice a n c) := by simp [World.cell?, hP]
  have hf0 : w.frozen? ⟨P, 0, none⟩ = false := by simp [World.frozen?, hP]
  have HP : Hid (w.heap[P]? = some (.cells #[.slice a n c, sv, .bool r] 33 (0, 0))) := hP
  have HB : Hid (SB w a ss) := hb
  have HN : Hid (n = ss.length) := hn
  clear hP hb hn
  obtain ⟨i0, hi, hz0, hz1, hz2⟩ := info_parts Try.info9
  have hlen : (ss.map Value.string).length = n * 1 := by rw [HN.out]; simp
  have hlen' : n + 4 ≤ 65540 := by have := HN.out; omega
  go_enter Try.func38, Try.ntmps38
  go_wp2_with (at_builtin; refine wpList_append_grows _ rfl (.tmp 45) (.tmp 67) 22 rfl 9 i0 (.string ByteArray.empty) 1 16 Try.underlying22 hi hz0 hz1 hz2 rfl (by decide) a n c (ss.map Value.string) rfl hnone hlen ?olds ⟨w.heap.size + 1, 0, none⟩ 4 4 ((namG name part).map Value.string) rfl rfl ?news (one_cells _) ?full ?b1 ?b2 ?_)
  case olds => exact HB.out.olds (fun k hk => by rw [Below.heap_alloc _ _ _ (by simp; omega), Below.heap_alloc _ _ _ hk])
  case news => exact new_cells _ ((namG name part).map Value.string) _ 9 _ (by simp) rfl
  case full => omega
  case b1 => unfold maxLen; omega
  case b2 => omega
  · intro v1 w1 hown hgrow
    obtain ⟨g, cap1, hv1⟩ := own_form hown (by omega)
    rw [hv1] at hown ⊢
    clear hv1
    have hb1 : w1.heap[P]? = some (.cells #[.slice a n c, sv, .bool r] 33 (0, 0)) := by
      rw [hgrow.block P (by simp; omega) (by simp), Below.heap_alloc _ _ _ (by simp; omega), Below.heap_alloc _ _ _ hPlt]; exact HP.out
    have hc1 : w1.cell? ⟨P, 0, none⟩ = some (.slice a n c) := by simp [World.cell?, hb1]
    have hf1 : w1.frozen? ⟨P, 0, none⟩ = false := by simp [World.frozen?, hb1]
    have hsz1 : w.heap.size + 2 ≤ w1.heap.size := by have := hgrow.size; simp at this; omega
    have hP1 : P < w1.heap.size := by omega
    have HG : Hid (((w.alloc (.cells #[.int .i64 kind, .string name, .string part] 37)).alloc (.cells ((namG name part).map Value.string).toArray 9)).grownBy w1 none) := hgrow
    have HO : Hid (w1.ownsRow (w.heap.size + 1 + 1) 9 1 (.slice (some ⟨g, 0, none⟩) (n + 4) cap1) (n + 4) (ss.map Value.string ++ (namG name part).map Value.string)) := hown
    clear hb1 hgrow hown hc0 hf0 hnone hlen
    go_wp2_with (at_builtin; refine wpList_append_own _ rfl (.tmp 75) (.tmp 90) 22 rfl (w.heap.size + 1 + 1) 9 i0 (.string ByteArray.empty) 1 16 Try.underlying22 hi hz0 hz1 hz2 rfl (by decide) (.slice (some ⟨g, 0, none⟩) (n + 4) cap1) (n + 4) (ss.map Value.string ++ (namG name part).map Value.string) rfl ((ownsRow_setCell_below HO.out (a := ⟨P, 0, none⟩) (by show P < _; omega) _).alloc _) ⟨w1.heap.size, 0, none⟩ 5 5 ((allG name).map Value.string) rfl rfl ?news2 (one_cells _) ?b12 ?b22 ?base2 ?_)
    case news2 => exact new_cells _ ((allG name).map Value.string) _ 9 _ (by simp) rfl
    case b12 => unfold maxLen; omega
    case b22 => omega
    case base2 => simp; omega
    · intro v2 w2 hown2 hgrow2 _
      obtain ⟨g2, cap2, hv2⟩ := own_form hown2 (by omega)
      rw [hv2] at hown2 ⊢
      clear hv2
      have hfin : w2.ownsRow (w.heap.size + 1 + 1) 9 1 (.slice (some ⟨g2, 0, none⟩) (n + 4 + 5) cap2) (n + 4 + 5) ((ss ++ (namG name part ++ allG name)).map Value.string) := by
        rw [List.map_append, List.map_append]; exact hown2
      have hcount : n + 4 + 5 = (ss ++ (namG name part ++ allG name)).length := by rw [HN.out]; simp [namG, allG]
      obtain ⟨m1, _⟩ := js_mid HP.out HG.out HO.out hgrow2
      have hend := js_end HP.out HG.out HO.out hgrow2 hfin hcount
      have HE : Hid _ := hend
      have hc2 : w2.cell? ⟨P, 0, none⟩ = some (.slice (some ⟨g, 0, none⟩) (n + 4) cap1) := by simp [World.cell?, m1]
      have hf2 : w2.frozen? ⟨P, 0, none⟩ = false := by simp [World.frozen?, m1]
      clear hend hcount hfin m1 hgrow2 hown2 hc1 hf1
      go_wp2
      go_end0
      exact ⟨g2, cap2, rfl, HE.out⟩

def anyPart (part : ByteArray) : Bool := part.toList.isEmpty || part.toList == [42]
def grants (name part : ByteArray) : List ByteArray := if anyPart part = true then anyG name ++ allG name else namG name part ++ allG name

theorem js_all (kind : Int) (name part : ByteArray) (P n c : Nat) (a : Option Addr) (sv : Value) (r : Bool) (ss : List ByteArray) (w : World)
    (hP : w.heap[P]? = some (.cells #[.slice a n c, sv, .bool r] 33 (0, 0))) (hn : n = ss.length) (hcn : c ≤ n) (hnone : a = none → n = 0 ∧ c = 0) (hb : SB w a ss)
    (hl : ss.length ≤ 65536) (hname : name.size ≤ 65536) (hsize : part.size ≤ 65536) :
    Calls Try.prog 38 #[.agg #[.int .i64 kind, .string name, .string part], .pointer (some ⟨P, 0, none⟩)] w fun e w' => ∃ g' c', e = .returned (.tuple #[]) ∧ w'.heap[P]? = some (.cells #[.slice (some ⟨g', 0, none⟩) (ss ++ grants name part).length c', sv, .bool r] 33 (0, 0)) ∧ SB w' (some ⟨g', 0, none⟩) (ss ++ grants name part) ∧ JFrame P w w' ∧ (ss ++ grants name part).length ≤ c' := by
  cases h1 : part.toList.isEmpty with
  | true =>
    have e : grants name part = anyG name ++ allG name := by unfold grants anyPart; rw [h1]; rfl
    rw [e]
    exact js_any kind name part P n c a sv r ss w hP hn hcn hnone hb hl hname h1
  | false =>
    cases h2 : (part.toList == [42]) with
    | true =>
      have e : grants name part = anyG name ++ allG name := by unfold grants anyPart; rw [h1, h2]; rfl
      rw [e]
      exact js_star kind name part P n c a sv r ss w hP hn hcn hnone hb hl hname h1 h2
    | false =>
      have e : grants name part = namG name part ++ allG name := by unfold grants anyPart; rw [h1, h2]; rfl
      rw [e]
      exact js_named kind name part P n c a sv r ss w hP hn hcn hnone hb hl hname hsize h1 h2

theorem JFrame.alloc {P : Nat} {w w' : World} {o : Obj} (h : JFrame P (w.alloc o) w') : JFrame P w w' := by
  refine ⟨h.os, h.tape, h.output, ?_, fun k hk hne => ?_⟩
  · have := h.size; simp at this; omega
  · rw [h.block k (by simp; omega) hne, Below.heap_alloc _ _ _ hk]

set_option maxHeartbeats 400000 in
theorem zz_all (kind : Int) (name part : ByteArray) (P n c : Nat) (a : Option Addr) (sv : Value) (r : Bool) (ss : List ByteArray) (w : World)
    (hP : w.heap[P]? = some (.cells #[.slice a n c, sv, .bool r] 33 (0, 0))) (hn : n = ss.length) (hcn : c ≤ n) (hnone : a = none → n = 0 ∧ c = 0) (hb : SB w a ss)
    (hl : ss.length ≤ 65536) (hname : name.size ≤ 65536) (hsize : part.size ≤ 65536) :
    Calls Try.prog 23 #[.agg #[.int .i64 kind, .string name, .string part], .pointer (some ⟨P, 0, none⟩)] w fun e w' => ∃ g' c', e = .returned (.tuple #[]) ∧ w'.heap[P]? = some (.cells #[.slice (some ⟨g', 0, none⟩) (ss ++ grants name part).length c', sv, .bool r] 33 (0, 0)) ∧ SB w' (some ⟨g', 0, none⟩) (ss ++ grants name part) ∧ JFrame P w w' ∧ (ss ++ grants name part).length ≤ c' := by
  have hPl := lt_of_block hP
  have hP1 : (w.alloc (.cells #[.int .i64 kind, .string name, .string part] 37)).heap[P]? = some (.cells #[.slice a n c, sv, .bool r] 33 (0, 0)) := by rw [Below.heap_alloc _ _ _ hPl]; exact hP
  have hb1 : SB (w.alloc (.cells #[.int .i64 kind, .string name, .string part] 37)) a ss := by
    rcases hb with h | ⟨g, C, fr, h1, h2, h3⟩
    · exact .inl h
    · exact .inr ⟨g, C, fr, h1, by rw [Below.heap_alloc _ _ _ (lt_of_block h2)]; exact h2, h3⟩
  have HP1 : Hid _ := hP1
  have HB1 : Hid _ := hb1
  have HN : Hid (n = ss.length) := hn
  clear hP1 hb1 hP hb hn
  go_enter Try.func23, Try.ntmps23
  go_wp2_with fail
  refine (js_all kind name part P n c a sv r ss _ HP1.out HN.out hcn hnone HB1.out hl hname hsize).mono ?_
  rintro e w1 ⟨g', c', rfl, h1, h2, h3, h4⟩
  have HE : Hid _ := And.intro h1 (And.intro h2 (And.intro h3.alloc h4))
  clear h1 h2 h3 h4
  go_wp2
  go_end0
  exact ⟨g', c', rfl, HE.out⟩
end Go.Proofs.Qxb6602990a
