import Derived.Below
namespace Go.Proofs.Qxb6602990a.Plain

def bt (l : List UInt8) (j : Nat) : Nat := (l.getD j 0).toNat

/-- Byte j stands at the head of a token. -/
def Head (l : List UInt8) (j : Nat) : Prop := j = 0 ∨ bt l (j - 1) = 46

/-- From 'start' up to i there is no dot. -/
def NoDot (l : List UInt8) (start i : Nat) : Prop := ∀ j, start ≤ j → j < i → bt l j ≠ 46

def piece (l : List UInt8) (a b : Nat) : List UInt8 := (l.take b).drop a

structure Valid (l : List UInt8) : Prop where
  pos : 0 < l.length
  at_ : ∀ start i, Head l start → start ≤ i → i ≤ l.length → NoDot l start i → (i = l.length ∨ bt l i = 46) → start < i ∧ (i < l.length → piece l start i ≠ [62])

structure Holds (l tok : List UInt8) (p : Nat) : Prop where
  head : Head l p
  le : p + tok.length ≤ l.length
  is : piece l p (p + tok.length) = tok
  nodot : NoDot l p (p + tok.length)
  fin : p + tok.length = l.length ∨ bt l (p + tok.length) = 46

theorem bt_lt (l : List UInt8) (j : Nat) : bt l j < 256 := UInt8.toNat_lt _

theorem bt_l (A B : List UInt8) (i : Nat) (h : i < A.length) : bt (A ++ B) i = bt A i := by
  simp [bt, List.getD, List.getElem?_append, h]
theorem bt_r (A B : List UInt8) (i : Nat) : bt (A ++ B) (A.length + i) = bt B i := by
  simp [bt, List.getD, List.getElem?_append_right]
theorem bt_end (l : List UInt8) (i : Nat) (h : l.length ≤ i) : bt l i = 0 := by
  simp [bt, List.getD, List.getElem?_eq_none h]

/-- A token: not empty, no dot. -/
structure Tok (t : List UInt8) : Prop where
  pos : 0 < t.length
  nodot : ∀ j, j < t.length → bt t j ≠ 46

theorem piece_l (A B : List UInt8) (a b : Nat) (h : b ≤ A.length) : piece (A ++ B) a b = piece A a b := by
  unfold piece
  rw [List.take_append_of_le_length h]
theorem piece_r (A B : List UInt8) (a b : Nat) : piece (A ++ B) (A.length + a) (A.length + b) = piece B a b := by
  unfold piece
  rw [List.take_append, List.drop_append]
  simp

theorem valid_one {t : List UInt8} (ht : Tok t) : Valid t := by
  refine ⟨ht.pos, fun start i hh h1 h2 h3 h4 => ?_⟩
  have hi : i = t.length := by
    rcases h4 with h4 | h4
    · exact h4
    · rcases Nat.lt_or_ge i t.length with h5 | h5
      · exact absurd h4 (ht.nodot i h5)
      · omega
  have h0 : start = 0 := by
    rcases hh with h | h
    · exact h
    · rcases Nat.lt_or_ge (start - 1) t.length with h5 | h5
      · exact absurd h (ht.nodot _ h5)
      · rw [bt_end t _ h5] at h; omega
  have := ht.pos
  exact ⟨by omega, fun h => by omega⟩

theorem valid_cons {t l : List UInt8} (ht : Tok t) (hne : t ≠ [62]) (hl : Valid l) : Valid (t ++ 46 :: l) := by
  have hlen : (t ++ 46 :: l).length = t.length + 1 + l.length := by simp; omega
  have hdot : bt (t ++ 46 :: l) t.length = 46 := by
    exact bt_r t (46 :: l) 0
  have htail : ∀ j, bt (t ++ 46 :: l) (t.length + 1 + j) = bt l j := fun j => by
    have e : t ++ 46 :: l = (t ++ [46]) ++ l := by simp
    rw [e]
    have := bt_r (t ++ [46]) l j
    simpa using this
  refine ⟨by omega, fun start i hh h1 h2 h3 h4 => ?_⟩
  by_cases hs : start ≤ t.length
  · have h0 : start = 0 := by
      rcases hh with h | h
      · exact h
      · by_cases e : start = 0
        · exact e
        · rw [bt_l _ _ _ (by omega)] at h
          exact absurd h (ht.nodot _ (by omega))
    subst h0
    have hi : i = t.length := by
      have c1 : ¬ t.length < i := fun c => h3 t.length (Nat.zero_le _) c hdot
      rcases Nat.lt_or_ge i t.length with c | c
      · rcases h4 with h4 | h4
        · omega
        · rw [bt_l _ _ _ c] at h4
          exact absurd h4 (ht.nodot _ c)
      · omega
    subst hi
    refine ⟨ht.pos, fun _ => ?_⟩
    rw [piece_l _ _ _ _ (Nat.le_refl _)]
    unfold piece
    simpa using hne
  · obtain ⟨s, rfl⟩ : ∃ s, start = t.length + 1 + s := ⟨start - (t.length + 1), by omega⟩
    obtain ⟨k, rfl⟩ : ∃ k, i = t.length + 1 + k := ⟨i - (t.length + 1), by omega⟩
    have hh' : Head l s := by
      by_cases e : s = 0
      · exact .inl e
      · rcases hh with h | h
        · omega
        · right
          have e2 : t.length + 1 + s - 1 = t.length + 1 + (s - 1) := by omega
          rw [e2, htail] at h
          exact h
    have r := hl.at_ s k hh' (by omega) (by omega) (fun j a b => by rw [← htail j]; exact h3 _ (by omega) (by omega)) (by
      rcases h4 with h4 | h4
      · left; omega
      · right; rw [← htail k]; exact h4)
    refine ⟨by omega, fun c => ?_⟩
    have e : t ++ 46 :: l = (t ++ [46]) ++ l := by simp
    have p := piece_r (t ++ [46]) l s k
    simp only [List.length_append, List.length_cons, List.length_nil, Nat.zero_add] at p
    rw [e, p]
    exact r.2 (by omega)

/-- A token between a dot (or the head) and a dot (or the end). -/
theorem holds_mid {pre t post : List UInt8} (ht : Tok t) (hpre : ∃ p, pre = p ++ [46]) (hpost : post = [] ∨ ∃ q, post = 46 :: q) : Holds (pre ++ (t ++ post)) t pre.length := by
  obtain ⟨p, rfl⟩ := hpre
  refine ⟨.inr ?_, ?_, ?_, fun j h1 h2 => ?_, ?_⟩
  · have e : (p ++ [46]).length - 1 = p.length := by simp
    rw [e, bt_l _ _ _ (by simp)]
    exact bt_r p [46] 0
  · simp; omega
  · have := piece_r (p ++ [46]) (t ++ post) 0 t.length
    simp only [Nat.add_zero] at this
    rw [this, piece_l _ _ _ _ (Nat.le_refl _)]
    simp [piece]
  · obtain ⟨k, rfl⟩ : ∃ k, j = (p ++ [46]).length + k := ⟨j - (p ++ [46]).length, by omega⟩
    rw [bt_r, bt_l _ _ _ (by omega)]
    exact ht.nodot k (by omega)
  · rcases hpost with rfl | ⟨q, rfl⟩
    · left; simp; omega
    · right
      rw [bt_r]
      exact bt_r t (46 :: q) 0

/-- Where the token that begins at i is not the one looked for, that one lies behind it. -/
theorem holds_next {l tok : List UInt8} {p i k : Nat} (h : Holds l tok p) (hip : i ≤ p) (hik : i ≤ k) (hk : k ≤ l.length) (hn : NoDot l i k) (hfin : k = l.length ∨ bt l k = 46) (hno : piece l i k ≠ tok) : k + 1 ≤ p := by
  rcases Nat.lt_or_ge i p with c | c
  · have hd : bt l (p - 1) = 46 := by
      rcases h.head with e | e
      · omega
      · exact e
    rcases Nat.lt_or_ge (p - 1) k with c2 | c2
    · exact absurd hd (hn _ (by omega) c2)
    · omega
  · exfalso
    obtain rfl : i = p := by omega
    have hle := h.le
    have e : k = i + tok.length := by
      rcases Nat.lt_trichotomy k (i + tok.length) with a | a | a
      · rcases hfin with f | f
        · omega
        · exact absurd f (h.nodot k hik a)
      · exact a
      · rcases h.fin with f | f
        · omega
        · exact absurd f (hn _ (by omega) a)
    rw [e] at hno
    exact hno h.is

def natsB (l : List UInt8) : Bool := !l.isEmpty && !(l == [62]) && l.all fun c => c != 46
theorem natsB_tok {l : List UInt8} (h : natsB l = true) : Tok l ∧ l ≠ [62] := by
  simp only [natsB, Bool.and_eq_true, Bool.not_eq_true', beq_eq_false_iff_ne, List.all_eq_true, bne_iff_ne] at h
  obtain ⟨⟨h1, h2⟩, h3⟩ := h
  refine ⟨⟨?_, fun j hj e => ?_⟩, h2⟩
  · cases l
    · simp at h1
    · simp
  · have e1 : l.getD j 0 = l[j] := by simp [List.getD, hj]
    unfold bt at e
    rw [e1] at e
    exact h3 _ (List.getElem_mem hj) (UInt8.toNat_inj.1 e)

theorem tok_of (t : List UInt8) (h : natsB t = true ∨ t = [62]) : Tok t := by
  rcases h with h | rfl
  · exact (natsB_tok h).1
  · exact ⟨by decide, fun j hj => by simp at hj; subst hj; decide⟩

end Go.Proofs.Qxb6602990a.Plain
