import Derived.Test.Qxb6602990aGrant
namespace Go.Proofs.Qxb6602990a
open Go.RowKit Go.Proofs.Qxb6602990a.Plain

/-- What the law asks of one grant. -/
def Good (g name : ByteArray) : Prop := Valid g.data.toList ∧ ∃ p, Holds g.data.toList name.data.toList p

theorem gt_tok : Tok [62] := tok_of _ (.inr rfl)

theorem good_any0 (s : ByteArray) (hs : Tok s.data.toList ∧ s.data.toList ≠ [62]) : Good (({ data := #[36, 74, 83, 46, 65, 80, 73, 46, 67, 79, 78, 83, 85, 77, 69, 82, 46, 42, 46] } : ByteArray) ++ s) s := by
  have e : (({ data := #[36, 74, 83, 46, 65, 80, 73, 46, 67, 79, 78, 83, 85, 77, 69, 82, 46, 42, 46] } : ByteArray) ++ s).data.toList = [36, 74, 83] ++ 46 :: ([65, 80, 73] ++ 46 :: ([67, 79, 78, 83, 85, 77, 69, 82] ++ 46 :: ([42] ++ 46 :: (s.data.toList)))) := by simp [ByteArray.data_append]
  have e2 : (({ data := #[36, 74, 83, 46, 65, 80, 73, 46, 67, 79, 78, 83, 85, 77, 69, 82, 46, 42, 46] } : ByteArray) ++ s).data.toList = [36, 74, 83, 46, 65, 80, 73, 46, 67, 79, 78, 83, 85, 77, 69, 82, 46, 42, 46] ++ (s.data.toList ++ []) := by simp [ByteArray.data_append]
  refine ⟨?_, ?_⟩
  · rw [e]; exact (valid_cons (tok_of _ (.inl (by decide))) (by decide) (valid_cons (tok_of _ (.inl (by decide))) (by decide) (valid_cons (tok_of _ (.inl (by decide))) (by decide) (valid_cons (tok_of _ (.inl (by decide))) (by decide) (valid_one hs.1)))))
  · rw [e2]; exact ⟨_, holds_mid hs.1 ⟨[36, 74, 83, 46, 65, 80, 73, 46, 67, 79, 78, 83, 85, 77, 69, 82, 46, 42], rfl⟩ (.inl rfl)⟩

theorem good_any1 (s : ByteArray) (hs : Tok s.data.toList ∧ s.data.toList ≠ [62]) : Good (({ data := #[36, 74, 83, 46, 65, 80, 73, 46, 67, 79, 78, 83, 85, 77, 69, 82, 46, 42, 46] } : ByteArray) ++ s ++ { data := #[46, 62] }) s := by
  have e : (({ data := #[36, 74, 83, 46, 65, 80, 73, 46, 67, 79, 78, 83, 85, 77, 69, 82, 46, 42, 46] } : ByteArray) ++ s ++ { data := #[46, 62] }).data.toList = [36, 74, 83] ++ 46 :: ([65, 80, 73] ++ 46 :: ([67, 79, 78, 83, 85, 77, 69, 82] ++ 46 :: ([42] ++ 46 :: (s.data.toList ++ 46 :: ([62]))))) := by simp [ByteArray.data_append]
  have e2 : (({ data := #[36, 74, 83, 46, 65, 80, 73, 46, 67, 79, 78, 83, 85, 77, 69, 82, 46, 42, 46] } : ByteArray) ++ s ++ { data := #[46, 62] }).data.toList = [36, 74, 83, 46, 65, 80, 73, 46, 67, 79, 78, 83, 85, 77, 69, 82, 46, 42, 46] ++ (s.data.toList ++ 46 :: ([62])) := by simp [ByteArray.data_append]
  refine ⟨?_, ?_⟩
  · rw [e]; exact (valid_cons (tok_of _ (.inl (by decide))) (by decide) (valid_cons (tok_of _ (.inl (by decide))) (by decide) (valid_cons (tok_of _ (.inl (by decide))) (by decide) (valid_cons (tok_of _ (.inl (by decide))) (by decide) (valid_cons hs.1 hs.2 (valid_one gt_tok))))))
  · rw [e2]; exact ⟨_, holds_mid hs.1 ⟨[36, 74, 83, 46, 65, 80, 73, 46, 67, 79, 78, 83, 85, 77, 69, 82, 46, 42], rfl⟩ (.inr ⟨_, rfl⟩)⟩

theorem good_any2 (s : ByteArray) (hs : Tok s.data.toList ∧ s.data.toList ≠ [62]) : Good (({ data := #[36, 74, 83, 46, 65, 80, 73, 46, 67, 79, 78, 83, 85, 77, 69, 82, 46, 68, 85, 82, 65, 66, 76, 69, 46, 67, 82, 69, 65, 84, 69, 46] } : ByteArray) ++ s ++ { data := #[46, 62] }) s := by
  have e : (({ data := #[36, 74, 83, 46, 65, 80, 73, 46, 67, 79, 78, 83, 85, 77, 69, 82, 46, 68, 85, 82, 65, 66, 76, 69, 46, 67, 82, 69, 65, 84, 69, 46] } : ByteArray) ++ s ++ { data := #[46, 62] }).data.toList = [36, 74, 83] ++ 46 :: ([65, 80, 73] ++ 46 :: ([67, 79, 78, 83, 85, 77, 69, 82] ++ 46 :: ([68, 85, 82, 65, 66, 76, 69] ++ 46 :: ([67, 82, 69, 65, 84, 69] ++ 46 :: (s.data.toList ++ 46 :: ([62])))))) := by simp [ByteArray.data_append]
  have e2 : (({ data := #[36, 74, 83, 46, 65, 80, 73, 46, 67, 79, 78, 83, 85, 77, 69, 82, 46, 68, 85, 82, 65, 66, 76, 69, 46, 67, 82, 69, 65, 84, 69, 46] } : ByteArray) ++ s ++ { data := #[46, 62] }).data.toList = [36, 74, 83, 46, 65, 80, 73, 46, 67, 79, 78, 83, 85, 77, 69, 82, 46, 68, 85, 82, 65, 66, 76, 69, 46, 67, 82, 69, 65, 84, 69, 46] ++ (s.data.toList ++ 46 :: ([62])) := by simp [ByteArray.data_append]
  refine ⟨?_, ?_⟩
  · rw [e]; exact (valid_cons (tok_of _ (.inl (by decide))) (by decide) (valid_cons (tok_of _ (.inl (by decide))) (by decide) (valid_cons (tok_of _ (.inl (by decide))) (by decide) (valid_cons (tok_of _ (.inl (by decide))) (by decide) (valid_cons (tok_of _ (.inl (by decide))) (by decide) (valid_cons hs.1 hs.2 (valid_one gt_tok)))))))
  · rw [e2]; exact ⟨_, holds_mid hs.1 ⟨[36, 74, 83, 46, 65, 80, 73, 46, 67, 79, 78, 83, 85, 77, 69, 82, 46, 68, 85, 82, 65, 66, 76, 69, 46, 67, 82, 69, 65, 84, 69], rfl⟩ (.inr ⟨_, rfl⟩)⟩

theorem good_any3 (s : ByteArray) (hs : Tok s.data.toList ∧ s.data.toList ≠ [62]) : Good (({ data := #[36, 74, 83, 46, 65, 80, 73, 46, 67, 79, 78, 83, 85, 77, 69, 82, 46, 77, 83, 71, 46, 78, 69, 88, 84, 46] } : ByteArray) ++ s ++ { data := #[46, 42] }) s := by
  have e : (({ data := #[36, 74, 83, 46, 65, 80, 73, 46, 67, 79, 78, 83, 85, 77, 69, 82, 46, 77, 83, 71, 46, 78, 69, 88, 84, 46] } : ByteArray) ++ s ++ { data := #[46, 42] }).data.toList = [36, 74, 83] ++ 46 :: ([65, 80, 73] ++ 46 :: ([67, 79, 78, 83, 85, 77, 69, 82] ++ 46 :: ([77, 83, 71] ++ 46 :: ([78, 69, 88, 84] ++ 46 :: (s.data.toList ++ 46 :: ([42])))))) := by simp [ByteArray.data_append]
  have e2 : (({ data := #[36, 74, 83, 46, 65, 80, 73, 46, 67, 79, 78, 83, 85, 77, 69, 82, 46, 77, 83, 71, 46, 78, 69, 88, 84, 46] } : ByteArray) ++ s ++ { data := #[46, 42] }).data.toList = [36, 74, 83, 46, 65, 80, 73, 46, 67, 79, 78, 83, 85, 77, 69, 82, 46, 77, 83, 71, 46, 78, 69, 88, 84, 46] ++ (s.data.toList ++ 46 :: ([42])) := by simp [ByteArray.data_append]
  refine ⟨?_, ?_⟩
  · rw [e]; exact (valid_cons (tok_of _ (.inl (by decide))) (by decide) (valid_cons (tok_of _ (.inl (by decide))) (by decide) (valid_cons (tok_of _ (.inl (by decide))) (by decide) (valid_cons (tok_of _ (.inl (by decide))) (by decide) (valid_cons (tok_of _ (.inl (by decide))) (by decide) (valid_cons hs.1 hs.2 (valid_one (tok_of _ (.inl (by decide))))))))))
  · rw [e2]; exact ⟨_, holds_mid hs.1 ⟨[36, 74, 83, 46, 65, 80, 73, 46, 67, 79, 78, 83, 85, 77, 69, 82, 46, 77, 83, 71, 46, 78, 69, 88, 84], rfl⟩ (.inr ⟨_, rfl⟩)⟩

theorem good_any4 (s : ByteArray) (hs : Tok s.data.toList ∧ s.data.toList ≠ [62]) : Good (({ data := #[36, 74, 83, 46, 65, 67, 75, 46] } : ByteArray) ++ s ++ { data := #[46, 62] }) s := by
  have e : (({ data := #[36, 74, 83, 46, 65, 67, 75, 46] } : ByteArray) ++ s ++ { data := #[46, 62] }).data.toList = [36, 74, 83] ++ 46 :: ([65, 67, 75] ++ 46 :: (s.data.toList ++ 46 :: ([62]))) := by simp [ByteArray.data_append]
  have e2 : (({ data := #[36, 74, 83, 46, 65, 67, 75, 46] } : ByteArray) ++ s ++ { data := #[46, 62] }).data.toList = [36, 74, 83, 46, 65, 67, 75, 46] ++ (s.data.toList ++ 46 :: ([62])) := by simp [ByteArray.data_append]
  refine ⟨?_, ?_⟩
  · rw [e]; exact (valid_cons (tok_of _ (.inl (by decide))) (by decide) (valid_cons (tok_of _ (.inl (by decide))) (by decide) (valid_cons hs.1 hs.2 (valid_one gt_tok))))
  · rw [e2]; exact ⟨_, holds_mid hs.1 ⟨[36, 74, 83, 46, 65, 67, 75], rfl⟩ (.inr ⟨_, rfl⟩)⟩

theorem good_nam0 (s c : ByteArray) (hs : Tok s.data.toList ∧ s.data.toList ≠ [62]) (hc : Tok c.data.toList ∧ c.data.toList ≠ [62]) : Good (({ data := #[36, 74, 83, 46, 65, 80, 73, 46, 67, 79, 78, 83, 85, 77, 69, 82, 46, 73, 78, 70, 79, 46] } : ByteArray) ++ s ++ { data := #[46] } ++ c) s := by
  have e : (({ data := #[36, 74, 83, 46, 65, 80, 73, 46, 67, 79, 78, 83, 85, 77, 69, 82, 46, 73, 78, 70, 79, 46] } : ByteArray) ++ s ++ { data := #[46] } ++ c).data.toList = [36, 74, 83] ++ 46 :: ([65, 80, 73] ++ 46 :: ([67, 79, 78, 83, 85, 77, 69, 82] ++ 46 :: ([73, 78, 70, 79] ++ 46 :: (s.data.toList ++ 46 :: (c.data.toList))))) := by simp [ByteArray.data_append]
  have e2 : (({ data := #[36, 74, 83, 46, 65, 80, 73, 46, 67, 79, 78, 83, 85, 77, 69, 82, 46, 73, 78, 70, 79, 46] } : ByteArray) ++ s ++ { data := #[46] } ++ c).data.toList = [36, 74, 83, 46, 65, 80, 73, 46, 67, 79, 78, 83, 85, 77, 69, 82, 46, 73, 78, 70, 79, 46] ++ (s.data.toList ++ 46 :: (c.data.toList)) := by simp [ByteArray.data_append]
  refine ⟨?_, ?_⟩
  · rw [e]; exact (valid_cons (tok_of _ (.inl (by decide))) (by decide) (valid_cons (tok_of _ (.inl (by decide))) (by decide) (valid_cons (tok_of _ (.inl (by decide))) (by decide) (valid_cons (tok_of _ (.inl (by decide))) (by decide) (valid_cons hs.1 hs.2 (valid_one hc.1))))))
  · rw [e2]; exact ⟨_, holds_mid hs.1 ⟨[36, 74, 83, 46, 65, 80, 73, 46, 67, 79, 78, 83, 85, 77, 69, 82, 46, 73, 78, 70, 79], rfl⟩ (.inr ⟨_, rfl⟩)⟩

theorem good_nam1 (s c : ByteArray) (hs : Tok s.data.toList ∧ s.data.toList ≠ [62]) (hc : Tok c.data.toList ∧ c.data.toList ≠ [62]) : Good (({ data := #[36, 74, 83, 46, 65, 80, 73, 46, 67, 79, 78, 83, 85, 77, 69, 82, 46, 68, 85, 82, 65, 66, 76, 69, 46, 67, 82, 69, 65, 84, 69, 46] } : ByteArray) ++ s ++ { data := #[46] } ++ c) s := by
  have e : (({ data := #[36, 74, 83, 46, 65, 80, 73, 46, 67, 79, 78, 83, 85, 77, 69, 82, 46, 68, 85, 82, 65, 66, 76, 69, 46, 67, 82, 69, 65, 84, 69, 46] } : ByteArray) ++ s ++ { data := #[46] } ++ c).data.toList = [36, 74, 83] ++ 46 :: ([65, 80, 73] ++ 46 :: ([67, 79, 78, 83, 85, 77, 69, 82] ++ 46 :: ([68, 85, 82, 65, 66, 76, 69] ++ 46 :: ([67, 82, 69, 65, 84, 69] ++ 46 :: (s.data.toList ++ 46 :: (c.data.toList)))))) := by simp [ByteArray.data_append]
  have e2 : (({ data := #[36, 74, 83, 46, 65, 80, 73, 46, 67, 79, 78, 83, 85, 77, 69, 82, 46, 68, 85, 82, 65, 66, 76, 69, 46, 67, 82, 69, 65, 84, 69, 46] } : ByteArray) ++ s ++ { data := #[46] } ++ c).data.toList = [36, 74, 83, 46, 65, 80, 73, 46, 67, 79, 78, 83, 85, 77, 69, 82, 46, 68, 85, 82, 65, 66, 76, 69, 46, 67, 82, 69, 65, 84, 69, 46] ++ (s.data.toList ++ 46 :: (c.data.toList)) := by simp [ByteArray.data_append]
  refine ⟨?_, ?_⟩
  · rw [e]; exact (valid_cons (tok_of _ (.inl (by decide))) (by decide) (valid_cons (tok_of _ (.inl (by decide))) (by decide) (valid_cons (tok_of _ (.inl (by decide))) (by decide) (valid_cons (tok_of _ (.inl (by decide))) (by decide) (valid_cons (tok_of _ (.inl (by decide))) (by decide) (valid_cons hs.1 hs.2 (valid_one hc.1)))))))
  · rw [e2]; exact ⟨_, holds_mid hs.1 ⟨[36, 74, 83, 46, 65, 80, 73, 46, 67, 79, 78, 83, 85, 77, 69, 82, 46, 68, 85, 82, 65, 66, 76, 69, 46, 67, 82, 69, 65, 84, 69], rfl⟩ (.inr ⟨_, rfl⟩)⟩

theorem good_nam2 (s c : ByteArray) (hs : Tok s.data.toList ∧ s.data.toList ≠ [62]) (hc : Tok c.data.toList ∧ c.data.toList ≠ [62]) : Good (({ data := #[36, 74, 83, 46, 65, 80, 73, 46, 67, 79, 78, 83, 85, 77, 69, 82, 46, 77, 83, 71, 46, 78, 69, 88, 84, 46] } : ByteArray) ++ s ++ { data := #[46] } ++ c) s := by
  have e : (({ data := #[36, 74, 83, 46, 65, 80, 73, 46, 67, 79, 78, 83, 85, 77, 69, 82, 46, 77, 83, 71, 46, 78, 69, 88, 84, 46] } : ByteArray) ++ s ++ { data := #[46] } ++ c).data.toList = [36, 74, 83] ++ 46 :: ([65, 80, 73] ++ 46 :: ([67, 79, 78, 83, 85, 77, 69, 82] ++ 46 :: ([77, 83, 71] ++ 46 :: ([78, 69, 88, 84] ++ 46 :: (s.data.toList ++ 46 :: (c.data.toList)))))) := by simp [ByteArray.data_append]
  have e2 : (({ data := #[36, 74, 83, 46, 65, 80, 73, 46, 67, 79, 78, 83, 85, 77, 69, 82, 46, 77, 83, 71, 46, 78, 69, 88, 84, 46] } : ByteArray) ++ s ++ { data := #[46] } ++ c).data.toList = [36, 74, 83, 46, 65, 80, 73, 46, 67, 79, 78, 83, 85, 77, 69, 82, 46, 77, 83, 71, 46, 78, 69, 88, 84, 46] ++ (s.data.toList ++ 46 :: (c.data.toList)) := by simp [ByteArray.data_append]
  refine ⟨?_, ?_⟩
  · rw [e]; exact (valid_cons (tok_of _ (.inl (by decide))) (by decide) (valid_cons (tok_of _ (.inl (by decide))) (by decide) (valid_cons (tok_of _ (.inl (by decide))) (by decide) (valid_cons (tok_of _ (.inl (by decide))) (by decide) (valid_cons (tok_of _ (.inl (by decide))) (by decide) (valid_cons hs.1 hs.2 (valid_one hc.1)))))))
  · rw [e2]; exact ⟨_, holds_mid hs.1 ⟨[36, 74, 83, 46, 65, 80, 73, 46, 67, 79, 78, 83, 85, 77, 69, 82, 46, 77, 83, 71, 46, 78, 69, 88, 84], rfl⟩ (.inr ⟨_, rfl⟩)⟩

theorem good_nam3 (s c : ByteArray) (hs : Tok s.data.toList ∧ s.data.toList ≠ [62]) (hc : Tok c.data.toList ∧ c.data.toList ≠ [62]) : Good (({ data := #[36, 74, 83, 46, 65, 67, 75, 46] } : ByteArray) ++ s ++ { data := #[46] } ++ c ++ { data := #[46, 62] }) s := by
  have e : (({ data := #[36, 74, 83, 46, 65, 67, 75, 46] } : ByteArray) ++ s ++ { data := #[46] } ++ c ++ { data := #[46, 62] }).data.toList = [36, 74, 83] ++ 46 :: ([65, 67, 75] ++ 46 :: (s.data.toList ++ 46 :: (c.data.toList ++ 46 :: ([62])))) := by simp [ByteArray.data_append]
  have e2 : (({ data := #[36, 74, 83, 46, 65, 67, 75, 46] } : ByteArray) ++ s ++ { data := #[46] } ++ c ++ { data := #[46, 62] }).data.toList = [36, 74, 83, 46, 65, 67, 75, 46] ++ (s.data.toList ++ 46 :: (c.data.toList ++ 46 :: ([62]))) := by simp [ByteArray.data_append]
  refine ⟨?_, ?_⟩
  · rw [e]; exact (valid_cons (tok_of _ (.inl (by decide))) (by decide) (valid_cons (tok_of _ (.inl (by decide))) (by decide) (valid_cons hs.1 hs.2 (valid_cons hc.1 hc.2 (valid_one gt_tok)))))
  · rw [e2]; exact ⟨_, holds_mid hs.1 ⟨[36, 74, 83, 46, 65, 67, 75], rfl⟩ (.inr ⟨_, rfl⟩)⟩

theorem good_all0 (s : ByteArray) (hs : Tok s.data.toList ∧ s.data.toList ≠ [62]) : Good (({ data := #[36, 74, 83, 46, 83, 78, 65, 80, 83, 72, 79, 84, 46, 82, 69, 83, 84, 79, 82, 69, 46] } : ByteArray) ++ s ++ { data := #[46, 42] }) s := by
  have e : (({ data := #[36, 74, 83, 46, 83, 78, 65, 80, 83, 72, 79, 84, 46, 82, 69, 83, 84, 79, 82, 69, 46] } : ByteArray) ++ s ++ { data := #[46, 42] }).data.toList = [36, 74, 83] ++ 46 :: ([83, 78, 65, 80, 83, 72, 79, 84] ++ 46 :: ([82, 69, 83, 84, 79, 82, 69] ++ 46 :: (s.data.toList ++ 46 :: ([42])))) := by simp [ByteArray.data_append]
  have e2 : (({ data := #[36, 74, 83, 46, 83, 78, 65, 80, 83, 72, 79, 84, 46, 82, 69, 83, 84, 79, 82, 69, 46] } : ByteArray) ++ s ++ { data := #[46, 42] }).data.toList = [36, 74, 83, 46, 83, 78, 65, 80, 83, 72, 79, 84, 46, 82, 69, 83, 84, 79, 82, 69, 46] ++ (s.data.toList ++ 46 :: ([42])) := by simp [ByteArray.data_append]
  refine ⟨?_, ?_⟩
  · rw [e]; exact (valid_cons (tok_of _ (.inl (by decide))) (by decide) (valid_cons (tok_of _ (.inl (by decide))) (by decide) (valid_cons (tok_of _ (.inl (by decide))) (by decide) (valid_cons hs.1 hs.2 (valid_one (tok_of _ (.inl (by decide))))))))
  · rw [e2]; exact ⟨_, holds_mid hs.1 ⟨[36, 74, 83, 46, 83, 78, 65, 80, 83, 72, 79, 84, 46, 82, 69, 83, 84, 79, 82, 69], rfl⟩ (.inr ⟨_, rfl⟩)⟩

theorem good_all1 (s : ByteArray) (hs : Tok s.data.toList ∧ s.data.toList ≠ [62]) : Good (({ data := #[36, 74, 83, 46, 83, 78, 65, 80, 83, 72, 79, 84, 46, 65, 67, 75, 46] } : ByteArray) ++ s ++ { data := #[46, 42] }) s := by
  have e : (({ data := #[36, 74, 83, 46, 83, 78, 65, 80, 83, 72, 79, 84, 46, 65, 67, 75, 46] } : ByteArray) ++ s ++ { data := #[46, 42] }).data.toList = [36, 74, 83] ++ 46 :: ([83, 78, 65, 80, 83, 72, 79, 84] ++ 46 :: ([65, 67, 75] ++ 46 :: (s.data.toList ++ 46 :: ([42])))) := by simp [ByteArray.data_append]
  have e2 : (({ data := #[36, 74, 83, 46, 83, 78, 65, 80, 83, 72, 79, 84, 46, 65, 67, 75, 46] } : ByteArray) ++ s ++ { data := #[46, 42] }).data.toList = [36, 74, 83, 46, 83, 78, 65, 80, 83, 72, 79, 84, 46, 65, 67, 75, 46] ++ (s.data.toList ++ 46 :: ([42])) := by simp [ByteArray.data_append]
  refine ⟨?_, ?_⟩
  · rw [e]; exact (valid_cons (tok_of _ (.inl (by decide))) (by decide) (valid_cons (tok_of _ (.inl (by decide))) (by decide) (valid_cons (tok_of _ (.inl (by decide))) (by decide) (valid_cons hs.1 hs.2 (valid_one (tok_of _ (.inl (by decide))))))))
  · rw [e2]; exact ⟨_, holds_mid hs.1 ⟨[36, 74, 83, 46, 83, 78, 65, 80, 83, 72, 79, 84, 46, 65, 67, 75], rfl⟩ (.inr ⟨_, rfl⟩)⟩

theorem good_all2 (s : ByteArray) (hs : Tok s.data.toList ∧ s.data.toList ≠ [62]) : Good (({ data := #[36, 74, 83, 46, 70, 67, 46] } : ByteArray) ++ s ++ { data := #[46, 62] }) s := by
  have e : (({ data := #[36, 74, 83, 46, 70, 67, 46] } : ByteArray) ++ s ++ { data := #[46, 62] }).data.toList = [36, 74, 83] ++ 46 :: ([70, 67] ++ 46 :: (s.data.toList ++ 46 :: ([62]))) := by simp [ByteArray.data_append]
  have e2 : (({ data := #[36, 74, 83, 46, 70, 67, 46] } : ByteArray) ++ s ++ { data := #[46, 62] }).data.toList = [36, 74, 83, 46, 70, 67, 46] ++ (s.data.toList ++ 46 :: ([62])) := by simp [ByteArray.data_append]
  refine ⟨?_, ?_⟩
  · rw [e]; exact (valid_cons (tok_of _ (.inl (by decide))) (by decide) (valid_cons (tok_of _ (.inl (by decide))) (by decide) (valid_cons hs.1 hs.2 (valid_one gt_tok))))
  · rw [e2]; exact ⟨_, holds_mid hs.1 ⟨[36, 74, 83, 46, 70, 67], rfl⟩ (.inr ⟨_, rfl⟩)⟩

theorem good_all3 (s : ByteArray) (hs : Tok s.data.toList ∧ s.data.toList ≠ [62]) : Good (({ data := #[36, 74, 83, 46, 65, 80, 73, 46, 68, 73, 82, 69, 67, 84, 46, 71, 69, 84, 46] } : ByteArray) ++ s) s := by
  have e : (({ data := #[36, 74, 83, 46, 65, 80, 73, 46, 68, 73, 82, 69, 67, 84, 46, 71, 69, 84, 46] } : ByteArray) ++ s).data.toList = [36, 74, 83] ++ 46 :: ([65, 80, 73] ++ 46 :: ([68, 73, 82, 69, 67, 84] ++ 46 :: ([71, 69, 84] ++ 46 :: (s.data.toList)))) := by simp [ByteArray.data_append]
  have e2 : (({ data := #[36, 74, 83, 46, 65, 80, 73, 46, 68, 73, 82, 69, 67, 84, 46, 71, 69, 84, 46] } : ByteArray) ++ s).data.toList = [36, 74, 83, 46, 65, 80, 73, 46, 68, 73, 82, 69, 67, 84, 46, 71, 69, 84, 46] ++ (s.data.toList ++ []) := by simp [ByteArray.data_append]
  refine ⟨?_, ?_⟩
  · rw [e]; exact (valid_cons (tok_of _ (.inl (by decide))) (by decide) (valid_cons (tok_of _ (.inl (by decide))) (by decide) (valid_cons (tok_of _ (.inl (by decide))) (by decide) (valid_cons (tok_of _ (.inl (by decide))) (by decide) (valid_one hs.1)))))
  · rw [e2]; exact ⟨_, holds_mid hs.1 ⟨[36, 74, 83, 46, 65, 80, 73, 46, 68, 73, 82, 69, 67, 84, 46, 71, 69, 84], rfl⟩ (.inl rfl)⟩

theorem good_all4 (s : ByteArray) (hs : Tok s.data.toList ∧ s.data.toList ≠ [62]) : Good (({ data := #[36, 74, 83, 46, 65, 80, 73, 46, 68, 73, 82, 69, 67, 84, 46, 71, 69, 84, 46] } : ByteArray) ++ s ++ { data := #[46, 62] }) s := by
  have e : (({ data := #[36, 74, 83, 46, 65, 80, 73, 46, 68, 73, 82, 69, 67, 84, 46, 71, 69, 84, 46] } : ByteArray) ++ s ++ { data := #[46, 62] }).data.toList = [36, 74, 83] ++ 46 :: ([65, 80, 73] ++ 46 :: ([68, 73, 82, 69, 67, 84] ++ 46 :: ([71, 69, 84] ++ 46 :: (s.data.toList ++ 46 :: ([62]))))) := by simp [ByteArray.data_append]
  have e2 : (({ data := #[36, 74, 83, 46, 65, 80, 73, 46, 68, 73, 82, 69, 67, 84, 46, 71, 69, 84, 46] } : ByteArray) ++ s ++ { data := #[46, 62] }).data.toList = [36, 74, 83, 46, 65, 80, 73, 46, 68, 73, 82, 69, 67, 84, 46, 71, 69, 84, 46] ++ (s.data.toList ++ 46 :: ([62])) := by simp [ByteArray.data_append]
  refine ⟨?_, ?_⟩
  · rw [e]; exact (valid_cons (tok_of _ (.inl (by decide))) (by decide) (valid_cons (tok_of _ (.inl (by decide))) (by decide) (valid_cons (tok_of _ (.inl (by decide))) (by decide) (valid_cons (tok_of _ (.inl (by decide))) (by decide) (valid_cons hs.1 hs.2 (valid_one gt_tok))))))
  · rw [e2]; exact ⟨_, holds_mid hs.1 ⟨[36, 74, 83, 46, 65, 80, 73, 46, 68, 73, 82, 69, 67, 84, 46, 71, 69, 84], rfl⟩ (.inr ⟨_, rfl⟩)⟩

theorem good_grants (name part : ByteArray) (hn : natsB name.data.toList = true) (hp : part.toList.isEmpty = true ∨ natsB part.data.toList = true) : ∀ g ∈ grants name part, Good g name := by
  have hs := natsB_tok hn
  intro g hg
  unfold grants at hg
  split at hg
  · simp only [anyG, allG, List.cons_append, List.nil_append, List.mem_cons, List.not_mem_nil, or_false] at hg
    rcases hg with rfl | rfl | rfl | rfl | rfl | rfl | rfl | rfl | rfl | rfl
    · exact good_any0 name hs
    · exact good_any1 name hs
    · exact good_any2 name hs
    · exact good_any3 name hs
    · exact good_any4 name hs
    · exact good_all0 name hs
    · exact good_all1 name hs
    · exact good_all2 name hs
    · exact good_all3 name hs
    · exact good_all4 name hs
  · rename_i hany
    have hc := natsB_tok (l := part.data.toList) (by
      rcases hp with h | h
      · exact absurd (by unfold anyPart; rw [h]; rfl) hany
      · exact h)
    simp only [namG, allG, List.cons_append, List.nil_append, List.mem_cons, List.not_mem_nil, or_false] at hg
    rcases hg with rfl | rfl | rfl | rfl | rfl | rfl | rfl | rfl | rfl
    · exact good_nam0 name part hs hc
    · exact good_nam1 name part hs hc
    · exact good_nam2 name part hs hc
    · exact good_nam3 name part hs hc
    · exact good_all0 name hs
    · exact good_all1 name hs
    · exact good_all2 name hs
    · exact good_all3 name hs
    · exact good_all4 name hs


theorem grants_len (name part : ByteArray) : (grants name part).length = if anyPart part = true then 10 else 9 := by
  unfold grants
  split <;> rfl

theorem grants_size (name part : ByteArray) (h1 : name.size ≤ 65536) (h2 : part.size ≤ 65536) : ∀ g ∈ grants name part, g.size ≤ 9000000000000000000 := by
  have h1' : name.data.size ≤ 65536 := h1
  have h2' : part.data.size ≤ 65536 := h2
  clear h1 h2
  intro g hg
  unfold grants at hg
  split at hg
  · simp only [anyG, allG, List.cons_append, List.nil_append, List.mem_cons, List.not_mem_nil, or_false] at hg
    rcases hg with rfl | rfl | rfl | rfl | rfl | rfl | rfl | rfl | rfl | rfl <;> simp only [ByteArray.size_append] <;> simp only [ByteArray.size, List.size_toArray, List.length_cons, List.length_nil] <;> omega
  · simp only [namG, allG, List.cons_append, List.nil_append, List.mem_cons, List.not_mem_nil, or_false] at hg
    rcases hg with rfl | rfl | rfl | rfl | rfl | rfl | rfl | rfl | rfl <;> simp only [ByteArray.size_append] <;> simp only [ByteArray.size, List.size_toArray, List.length_cons, List.length_nil] <;> omega

theorem grants_nodup (name part : ByteArray) : ((grants name part).map fun g => g.data.toList).Nodup := by
  unfold grants
  split
  · simp [anyG, allG, ByteArray.data_append]
  · simp [namG, allG, ByteArray.data_append]

theorem grants_distinct (name part : ByteArray) : ∀ i j, i < j → j < (grants name part).length → (((grants name part).getD i ByteArray.empty).toList == ((grants name part).getD j ByteArray.empty).toList) = false := by
  intro i j hij hj
  have hn := grants_nodup name part
  rw [List.Nodup, List.pairwise_iff_getElem] at hn
  have h := hn i j (by simp; omega) (by simpa using hj) hij
  have e1 : (grants name part).getD i ByteArray.empty = (grants name part)[i] := by rw [List.getD, List.getElem?_eq_getElem (by omega)]; rfl
  have e2 : (grants name part).getD j ByteArray.empty = (grants name part)[j] := by rw [List.getD, List.getElem?_eq_getElem hj]; rfl
  rw [e1, e2, ByteArray.toList_eq, ByteArray.toList_eq]
  simpa using h
end Go.Proofs.Qxb6602990a
