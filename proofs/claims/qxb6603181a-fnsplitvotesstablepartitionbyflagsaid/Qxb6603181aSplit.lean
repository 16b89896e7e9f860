import Derived.Test.Qxb6603181aCopy
import Derived.ArgAppend
namespace Go.Proofs.Qxb6603181a
open Go.RowKit

def Mem.cells (m : Mem) : List Value := [.string m.id, .string m.addr, .string m.api, .bool m.nv]
def cellsM (ms : List Mem) : List Value := ms.flatMap Mem.cells
theorem cellsM_len (ms : List Mem) : (cellsM ms).length = ms.length * 4 := by
  induction ms with
  | nil => rfl
  | cons m ms ih => simp [cellsM, Mem.cells] at ih ⊢; omega
theorem cellsM_app (a b : List Mem) : cellsM (a ++ b) = cellsM a ++ cellsM b := by simp [cellsM]
theorem cellsM_one (m : Mem) : cellsM [m] = m.cells := by simp [cellsM]
theorem one_cells (ms : List Mem) : ∀ u ∈ cellsM ms, u.oneCell' = true := by
  intro u hu
  simp only [cellsM, List.mem_flatMap, Mem.cells, List.mem_cons, List.not_mem_nil, or_false] at hu
  obtain ⟨m, _, h⟩ := hu
  rcases h with rfl | rfl | rfl | rfl <;> rfl

/-- A row of the call's own: nil, or not empty. -/
def OR (w : World) (B : Nat) (a : Option Addr) (cap : Nat) (ms : List Mem) : Prop :=
  (a = none ∧ ms = [] ∧ cap = 0) ∨ ∃ g, a = some ⟨g, 0, none⟩ ∧ ms ≠ [] ∧ w.ownsRow B 30 4 (.slice (some ⟨g, 0, none⟩) ms.length cap) ms.length (cellsM ms)
def Sep (a a' : Option Addr) : Prop := ∀ g g', a = some ⟨g, 0, none⟩ → a' = some ⟨g', 0, none⟩ → g ≠ g'

theorem own_blk {w : World} {B n cap g : Nat} {xs : List Value} (h : w.ownsRow B 30 4 (.slice (some ⟨g, 0, none⟩) n cap) n xs) : B ≤ g ∧ g < w.heap.size := by
  obtain ⟨_, h | ⟨g', cap', cur, hv, hg, hh, _⟩⟩ := h
  · simp at h
  · simp at hv
    obtain ⟨rfl, rfl⟩ := hv
    exact ⟨hg, lt_of_block hh⟩
theorem own_form {w : World} {base n : Nat} {v : Value} {xs : List Value} (h : w.ownsRow base 30 4 v n xs) (hn : 0 < n) : ∃ g cap, v = .slice (some ⟨g, 0, none⟩) n cap := by
  obtain ⟨_, h | ⟨g, cap, _, hv, _⟩⟩ := h
  · omega
  · exact ⟨g, cap, hv⟩
theorem own_low {w : World} {B B' n : Nat} {v : Value} {xs : List Value} (h : w.ownsRow B' 30 4 v n xs) (hB : B ≤ B') : w.ownsRow B 30 4 v n xs := by
  obtain ⟨h1, h | ⟨g, cap, cur, hv, hg, r⟩⟩ := h
  · exact ⟨h1, .inl h⟩
  · exact ⟨h1, .inr ⟨g, cap, cur, hv, by omega, r⟩⟩
theorem own_same {w w' : World} {B n cap g : Nat} {xs : List Value} (h : w.ownsRow B 30 4 (.slice (some ⟨g, 0, none⟩) n cap) n xs) (hk : w'.heap[g]? = w.heap[g]?) : w'.ownsRow B 30 4 (.slice (some ⟨g, 0, none⟩) n cap) n xs := by
  obtain ⟨h1, h | ⟨g', cap', cur, hv, hg, hh, r⟩⟩ := h
  · simp at h
  · have hv' := hv
    simp at hv'
    obtain ⟨rfl, rfl⟩ := hv'
    exact ⟨h1, .inr ⟨g, cap, cur, rfl, hg, hk.trans hh, r⟩⟩
theorem OR.same {w w' : World} {B cap : Nat} {a : Option Addr} {ms : List Mem} (h : OR w B a cap ms) (hk : ∀ g, a = some ⟨g, 0, none⟩ → g < w.heap.size → w'.heap[g]? = w.heap[g]?) : OR w' B a cap ms := by
  rcases h with h | ⟨g, ha, hne, ho⟩
  · exact .inl h
  · exact .inr ⟨g, ha, hne, own_same ho (hk g ha (own_blk ho).2)⟩
theorem OR.noneIs {w : World} {B cap : Nat} {a : Option Addr} {ms : List Mem} (h : OR w B a cap ms) : a = none → ms.length = 0 ∧ cap = 0 := by
  intro e
  rcases h with ⟨_, rfl, rfl⟩ | ⟨g, ha, _⟩
  · exact ⟨rfl, rfl⟩
  · rw [ha] at e; cases e
theorem add_lit (b o j : Nat) : (⟨b, o, none⟩ : Addr).add j = ⟨b, o + j, none⟩ := by unfold Addr.add; split <;> simp_all
theorem OR.olds {w W : World} {B cap : Nat} {a : Option Addr} {ms : List Mem} (h : OR w B a cap ms) (hk : ∀ k, k < w.heap.size → W.heap[k]? = w.heap[k]?) :
    ∀ b, a = some b → ∀ j u, (cellsM ms)[j]? = some u → W.cell? (b.add j) = some u := by
  intro b hb j u hj
  rcases h with ⟨h, _⟩ | ⟨g, ha, _, ho⟩
  · rw [h] at hb; cases hb
  · rw [ha] at hb
    cases hb
    have hjl : j < ms.length * 4 := by
      have := (List.getElem?_eq_some_iff.1 hj).1
      rwa [cellsM_len] at this
    have ho' := own_same (w' := W) ho (hk g (own_blk ho).2)
    rw [add_lit, Nat.zero_add, ho'.cellAt j hjl]
    exact hj

theorem grow_rel {w wr w4 : World} {A1 A2 : Obj} {B cap' g c : Nat} {a' : Option Addr} {V N : List Mem} {m : Mem} (hO' : OR wr B a' cap' N) (hB : Below B w wr) (hsz : B ≤ wr.heap.size)
    (hown : w4.ownsRow (wr.heap.size + 1 + 1) 30 4 (.slice (some ⟨g, 0, none⟩) (V.length + 1) c) (V.length + 1) (cellsM V ++ cellsM [m])) (hgr : ((wr.alloc A1).alloc A2).grownBy w4 none) :
    OR w4 B (some ⟨g, 0, none⟩) c (V ++ [m]) ∧ OR w4 B a' cap' N ∧ Sep (some ⟨g, 0, none⟩) a' ∧ Below B w w4 := by
  have hblk : ∀ k, k < wr.heap.size → w4.heap[k]? = wr.heap[k]? := fun k hk => by
    rw [hgr.block k (by simp; omega) (by simp), Below.heap_alloc _ _ _ (by simp; omega), Below.heap_alloc _ _ _ hk]
  have hg := own_blk hown
  refine ⟨.inr ⟨g, rfl, by simp, ?_⟩, hO'.same (fun k _ hk => hblk k hk), ?_, ?_⟩
  · rw [cellsM_app, List.length_append]
    exact own_low hown (by omega)
  · intro x y hx hy
    simp at hx
    subst hx
    rcases hO' with ⟨h, _⟩ | ⟨g', ha, _, ho⟩
    · rw [h] at hy; cases hy
    · rw [ha] at hy
      simp at hy
      have := own_blk ho
      omega
  · exact ((hB.alloc hsz _).alloc (by simp; omega) _).grown hgr (by simp; omega) (by simp)

theorem fit_rel {w wr w4 : World} {A1 A2 : Obj} {B cap cap' g : Nat} {a' : Option Addr} {V N : List Mem} {m : Mem} (hO' : OR wr B a' cap' N) (hsep : Sep (some ⟨g, 0, none⟩) a') (hB : Below B w wr) (hsz : B ≤ wr.heap.size)
    (hown : w4.ownsRow B 30 4 (.slice (some ⟨g, 0, none⟩) (V.length + 1) cap) (V.length + 1) (cellsM V ++ cellsM [m])) (hgr : ((wr.alloc A1).alloc A2).grownBy w4 (some g)) :
    OR w4 B (some ⟨g, 0, none⟩) cap (V ++ [m]) ∧ OR w4 B a' cap' N ∧ Sep (some ⟨g, 0, none⟩) a' ∧ Below B w w4 := by
  have hblk : ∀ k, k < wr.heap.size → k ≠ g → w4.heap[k]? = wr.heap[k]? := fun k hk hne => by
    rw [hgr.block k (by simp; omega) (by simp; omega), Below.heap_alloc _ _ _ (by simp; omega), Below.heap_alloc _ _ _ hk]
  have hg := own_blk hown
  refine ⟨.inr ⟨g, rfl, by simp, ?_⟩, hO'.same (fun k e hk => hblk k hk (fun h => hsep g k rfl e h.symm)), hsep, ?_⟩
  · rw [cellsM_app, List.length_append]
    exact hown
  · exact ((hB.alloc hsz _).alloc (by simp; omega) _).grown hgr (by simp; omega) (by simp; omega)

def vs (ms : List Mem) : List Mem := ms.filter fun m => !m.nv
def ns (ms : List Mem) : List Mem := ms.filter fun m => m.nv
theorem take_snoc (ms : List Mem) (k : Nat) (h : k < ms.length) : ms.take (k + 1) = ms.take k ++ [ms.getD k mem0] := by
  have e : ms.getD k mem0 = ms[k] := by rw [List.getD, List.getElem?_eq_getElem h]; rfl
  rw [List.take_succ_eq_append_getElem h, e]
theorem vs_yes (ms : List Mem) (k : Nat) (h : k < ms.length) (hn : (ms.getD k mem0).nv = false) : vs (ms.take (k + 1)) = vs (ms.take k) ++ [ms.getD k mem0] ∧ ns (ms.take (k + 1)) = ns (ms.take k) := by
  rw [take_snoc ms k h]
  generalize ms.getD k mem0 = m at hn
  simp [vs, ns, hn]
theorem vs_no (ms : List Mem) (k : Nat) (h : k < ms.length) (hn : (ms.getD k mem0).nv = true) : vs (ms.take (k + 1)) = vs (ms.take k) ∧ ns (ms.take (k + 1)) = ns (ms.take k) ++ [ms.getD k mem0] := by
  rw [take_snoc ms k h]
  generalize ms.getD k mem0 = m at hn
  simp [vs, ns, hn]
theorem new_cells (w : World) (l : List Value) (C : Array Value) (t : TypeId) (g : Nat) (hg : g = w.heap.size) (hC : C = l.toArray) : ∀ j u, l[j]? = some u → (w.alloc (.cells C t)).cell? ((⟨g, 0, none⟩ : Addr).add j) = some u := by
  intro j u h
  subst hg hC
  rw [add_lit, Nat.zero_add]
  have := heap_alloc_new w (.cells l.toArray t)
  simp only [World.cell?, this]
  simpa using h

set_option maxHeartbeats 2000000 in
theorem split_any (a : Option Addr) (ms : List Mem) (cap : Nat) (w : World) (hr : MRd w a ms) (hl : ms.length ≤ 65536) :
    Calls Try.prog 15 #[.slice a ms.length cap] w fun e w' => ∃ av cv an cn, e = .returned (.tuple #[.slice av (vs ms).length cv, .slice an (ns ms).length cn]) ∧ OR w' w.heap.size av cv (vs ms) ∧ OR w' w.heap.size an cn (ns ms) ∧ Below w.heap.size w w' := by
  obtain ⟨i0, hi, hz0, hz1, hz2⟩ := info_parts Try.info30
  obtain ⟨B, hBe⟩ : ∃ B, B = w.heap.size := ⟨_, rfl⟩
  rw [← hBe]
  have HBE : Hid (B = w.heap.size) := hBe
  clear hBe
  rcases hr with rfl | ⟨b, off, rfl, hc⟩
  · simp only [List.length_nil]
    go_enter Try.func15, Try.ntmps15
    go_wp2
    refine wp_loop_rounds 1 ?_
    rw [rounds_succ]
    go_wp2
    go_ret2
    exact ⟨none, 0, none, 0, rfl, .inl ⟨rfl, rfl, rfl⟩, .inl ⟨rfl, rfl, rfl⟩, Below.refl _ _⟩
  have HC : Hid (∀ j, j < ms.length → w.cell? ⟨b, off + j * 4, none⟩ = some (.string (ms.getD j mem0).id) ∧ w.cell? ⟨b, off + j * 4 + 1, none⟩ = some (.string (ms.getD j mem0).addr) ∧
    w.cell? ⟨b, off + j * 4 + 2, none⟩ = some (.string (ms.getD j mem0).api) ∧ w.cell? ⟨b, off + j * 4 + 3, none⟩ = some (.bool (ms.getD j mem0).nv)) := hc
  clear hc
  go_enter Try.func15, Try.ntmps15
  go_wp2
  go_loopw [2, 3, 8] (fun x y i wr => ∃ k : Nat, ∃ av cv an cn, k ≤ ms.length ∧ i = .int .i64 k ∧ x = .slice av (vs (ms.take k)).length cv ∧ y = .slice an (ns (ms.take k)).length cn ∧ OR wr B av cv (vs (ms.take k)) ∧ OR wr B an cn (ns (ms.take k)) ∧ Sep av an ∧ Below B w wr) (fun _ _ i _ => ms.length - (intOf i).toNat)
  case atStart => exact ⟨0, none, 0, none, 0, Nat.zero_le _, rfl, rfl, rfl, .inl ⟨rfl, rfl, rfl⟩, .inl ⟨rfl, rfl, rfl⟩, (fun g g' h => by cases h), Below.refl _ _⟩
  case round =>
    obtain ⟨k, av, cv, an, cn, hk, rfl, rfl, rfl, hV, hN, hsep, hB⟩ := hrel
    by_cases hlt : k < ms.length
    · obtain ⟨c0, c1, c2, c3⟩ := HC.out k hlt
      have hbw : B ≤ wr.heap.size := by have := hB.size; have := HBE.out; omega
      have hsV : (vs (ms.take k)).length ≤ 65536 := Nat.le_trans (List.length_filter_le _ _) (by rw [List.length_take]; omega)
      have hsN : (ns (ms.take k)).length ≤ 65536 := Nat.le_trans (List.length_filter_le _ _) (by rw [List.length_take]; omega)
      have hyes := vs_yes ms k hlt
      have hno := vs_no ms k hlt
      obtain ⟨V, hVe⟩ : ∃ V, V = vs (ms.take k) := ⟨_, rfl⟩
      obtain ⟨N, hNe⟩ : ∃ N, N = ns (ms.take k) := ⟨_, rfl⟩
      obtain ⟨m, hm⟩ : ∃ m, m = ms.getD k mem0 := ⟨_, rfl⟩
      rw [← hm] at c0 c1 c2 c3
      rw [← hm, ← hVe, ← hNe] at hyes hno
      rw [← hVe] at hV hsV ⊢
      rw [← hNe] at hN hsN ⊢
      have d0 : wr.cell? ⟨b, off + k * 4, none⟩ = some (.string m.id) := (hB.cell (HBE.out ▸ lt_of_cell c0)).trans c0
      have d1 : wr.cell? ⟨b, off + k * 4 + 1, none⟩ = some (.string m.addr) := (hB.cell (HBE.out ▸ lt_of_cell c1)).trans c1
      have d2 : wr.cell? ⟨b, off + k * 4 + 2, none⟩ = some (.string m.api) := (hB.cell (HBE.out ▸ lt_of_cell c2)).trans c2
      have d3 : wr.cell? ⟨b, off + k * 4 + 3, none⟩ = some (.bool m.nv) := (hB.cell (HBE.out ▸ lt_of_cell c3)).trans c3
      have HV : Hid (OR wr B av cv V) := hV
      have HN : Hid (OR wr B an cn N) := hN
      have HS : Hid (Sep av an) := hsep
      have HBB : Hid (Below B w wr) := hB
      have HY : Hid (m.nv = false → vs (List.take (k + 1) ms) = V ++ [m] ∧ ns (List.take (k + 1) ms) = N) := hyes
      have HNO : Hid (m.nv = true → vs (List.take (k + 1) ms) = V ∧ ns (List.take (k + 1) ms) = N ++ [m]) := hno
      clear hV hN hsep hB hyes hno hVe hNe hm c0 c1 c2 c3
      cases hnv : m.nv
      · have _tok := trivial
        have hnone := HV.out.noneIs
        have hlenX : (cellsM V).length = V.length * 4 := cellsM_len V
        have E : Hid (vs (ms.take (k + 1)) = V ++ [m] ∧ ns (ms.take (k + 1)) = N) := HY.out hnv
        by_cases hroom : V.length + 1 ≤ cv
        · have hx : ∃ g, av = some ⟨g, 0, none⟩ ∧ wr.ownsRow B 30 4 (.slice (some ⟨g, 0, none⟩) V.length cv) V.length (cellsM V) := by
            rcases HV.out with ⟨_, _, h0⟩ | ⟨g, h1, _, h2⟩
            · omega
            · exact ⟨g, h1, h2⟩
          obtain ⟨g, hax, hown0⟩ := hx
          subst hax
          clear hnone hlenX
          go_wp2_with (at_builtin; refine wpList_append_fits _ rfl (.tmp 18) (.tmp 20) 25 rfl B 30 i0 4 Try.underlying25 hi hz1 g V.length cv (cellsM V) rfl ((hown0.alloc _).alloc _) ⟨wr.heap.size + 1, 0, none⟩ 1 1 (cellsM [m]) rfl rfl ?newsffalse (one_cells _) ?fitsfalse ?_)
          case newsffalse => exact new_cells _ (cellsM [m]) _ 30 _ (by simp) (by simp [cellsM, Mem.cells, hnv])
          case fitsfalse => omega
          intro w4 hown hgrow
          have R : Hid _ := fit_rel (V := V) (m := m) HN.out HS.out HBB.out hbw hown hgrow
          clear hown hgrow hown0 hnv
          go_wp2
          go_roundw
          case rel => exact ⟨k + 1, some ⟨g, 0, none⟩, cv, an, cn, by omega, by go_num, by rw [E.out.1]; simp, by rw [E.out.2], by rw [E.out.1]; exact R.out.1, by rw [E.out.2]; exact R.out.2.1, R.out.2.2.1, R.out.2.2.2⟩
          case measure => simp [intOf]; omega
        · go_wp2_with (at_builtin; refine wpList_append_grows _ rfl (.tmp 18) (.tmp 20) 25 rfl 30 i0 _ 4 56 Try.underlying25 hi hz0 hz1 hz2 rfl (by decide) av V.length cv (cellsM V) rfl hnone hlenX ?oldsfalse ⟨wr.heap.size + 1, 0, none⟩ 1 1 (cellsM [m]) rfl rfl ?newsfalse (one_cells _) ?fullfalse ?b1false ?b2false ?_)
          case oldsfalse => exact HV.out.olds (fun j hj => by rw [Below.heap_alloc _ _ _ (by simp; omega), Below.heap_alloc _ _ _ hj])
          case newsfalse => exact new_cells _ (cellsM [m]) _ 30 _ (by simp) (by simp [cellsM, Mem.cells, hnv])
          case fullfalse => omega
          case b1false => unfold maxLen; omega
          case b2false => omega
          intro v1 w4 hown hgrow
          obtain ⟨g, c1, hv1⟩ := own_form hown (by omega)
          rw [hv1] at hown ⊢
          have R : Hid _ := grow_rel (V := V) (m := m) HN.out HBB.out hbw hown hgrow
          clear hv1 hown hgrow hnone hlenX hnv
          go_wp2
          go_roundw
          case rel => exact ⟨k + 1, some ⟨g, 0, none⟩, c1, an, cn, by omega, by go_num, by rw [E.out.1]; simp, by rw [E.out.2], by rw [E.out.1]; exact R.out.1, by rw [E.out.2]; exact R.out.2.1, R.out.2.2.1, R.out.2.2.2⟩
          case measure => simp [intOf]; omega
      · have _tok := trivial
        have hnone := HN.out.noneIs
        have hlenX : (cellsM N).length = N.length * 4 := cellsM_len N
        have E : Hid (vs (ms.take (k + 1)) = V ∧ ns (ms.take (k + 1)) = N ++ [m]) := HNO.out hnv
        by_cases hroom : N.length + 1 ≤ cn
        · have hx : ∃ g, an = some ⟨g, 0, none⟩ ∧ wr.ownsRow B 30 4 (.slice (some ⟨g, 0, none⟩) N.length cn) N.length (cellsM N) := by
            rcases HN.out with ⟨_, _, h0⟩ | ⟨g, h1, _, h2⟩
            · omega
            · exact ⟨g, h1, h2⟩
          obtain ⟨g, hax, hown0⟩ := hx
          subst hax
          clear hnone hlenX
          go_wp2_with (at_builtin; refine wpList_append_fits _ rfl (.tmp 14) (.tmp 16) 25 rfl B 30 i0 4 Try.underlying25 hi hz1 g N.length cn (cellsM N) rfl ((hown0.alloc _).alloc _) ⟨wr.heap.size + 1, 0, none⟩ 1 1 (cellsM [m]) rfl rfl ?newsftrue (one_cells _) ?fitstrue ?_)
          case newsftrue => exact new_cells _ (cellsM [m]) _ 30 _ (by simp) (by simp [cellsM, Mem.cells, hnv])
          case fitstrue => omega
          intro w4 hown hgrow
          have R : Hid _ := fit_rel (V := N) (m := m) HV.out (fun g g' h h' e => HS.out g' g h' h e.symm) HBB.out hbw hown hgrow
          clear hown hgrow hown0 hnv
          go_wp2
          go_roundw
          case rel => exact ⟨k + 1, av, cv, some ⟨g, 0, none⟩, cn, by omega, by go_num, by rw [E.out.1], by rw [E.out.2]; simp, by rw [E.out.1]; exact R.out.2.1, by rw [E.out.2]; exact R.out.1, (fun g g' h h' e => R.out.2.2.1 g' g h' h e.symm), R.out.2.2.2⟩
          case measure => simp [intOf]; omega
        · go_wp2_with (at_builtin; refine wpList_append_grows _ rfl (.tmp 14) (.tmp 16) 25 rfl 30 i0 _ 4 56 Try.underlying25 hi hz0 hz1 hz2 rfl (by decide) an N.length cn (cellsM N) rfl hnone hlenX ?oldstrue ⟨wr.heap.size + 1, 0, none⟩ 1 1 (cellsM [m]) rfl rfl ?newstrue (one_cells _) ?fulltrue ?b1true ?b2true ?_)
          case oldstrue => exact HN.out.olds (fun j hj => by rw [Below.heap_alloc _ _ _ (by simp; omega), Below.heap_alloc _ _ _ hj])
          case newstrue => exact new_cells _ (cellsM [m]) _ 30 _ (by simp) (by simp [cellsM, Mem.cells, hnv])
          case fulltrue => omega
          case b1true => unfold maxLen; omega
          case b2true => omega
          intro v1 w4 hown hgrow
          obtain ⟨g, c1, hv1⟩ := own_form hown (by omega)
          rw [hv1] at hown ⊢
          have R : Hid _ := grow_rel (V := N) (m := m) HV.out HBB.out hbw hown hgrow
          clear hv1 hown hgrow hnone hlenX hnv
          go_wp2
          go_roundw
          case rel => exact ⟨k + 1, av, cv, some ⟨g, 0, none⟩, c1, by omega, by go_num, by rw [E.out.1], by rw [E.out.2]; simp, by rw [E.out.1]; exact R.out.2.1, by rw [E.out.2]; exact R.out.1, (fun g g' h h' e => R.out.2.2.1 g' g h' h e.symm), R.out.2.2.2⟩
          case measure => simp [intOf]; omega
    · obtain rfl : k = ms.length := by omega
      rw [List.take_length] at hV hN ⊢
      go_wp2
      go_ret2
      exact ⟨av, cv, an, cn, rfl, hV, hN, HBE.out ▸ hB⟩
end Go.Proofs.Qxb6603181a
