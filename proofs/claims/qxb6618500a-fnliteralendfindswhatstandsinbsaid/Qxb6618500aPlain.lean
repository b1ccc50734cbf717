/-
  THE PLAIN LAW behind both statements of this seat: no Go in sight. 'okB s i l': does the text l stand in s at i?
-/
namespace Go.Proofs.Qxb6618500a.Plain

/-- What literalEnd answers, the bytes of b told as a list. -/
def okL (s : List UInt8) (i : Nat) (l : List UInt8) : Bool := decide (i + l.length ≤ s.length) && ((s.drop i).take l.length == l)

theorem okL_iff (s : List UInt8) (i : Nat) (l : List UInt8) (hi : i ≤ s.length) : okL s i l = true ↔ l <+: s.drop i := by
  unfold okL
  rw [Bool.and_eq_true, decide_eq_true_iff, beq_iff_eq]
  constructor
  · rintro ⟨_, h⟩
    rw [← h]
    exact List.take_prefix _ _
  · intro h
    refine ⟨?_, ?_⟩
    · have := h.length_le
      rw [List.length_drop] at this
      omega
    · exact (List.prefix_iff_eq_take.1 h).symm

/-- The whole stands at i just where its two parts stand behind one another. -/
theorem split_iff (d l : List UInt8) (k : Nat) : l <+: d ↔ (l.take k <+: d ∧ l.drop k <+: d.drop (l.take k).length) := by
  constructor
  · rintro ⟨r, rfl⟩
    refine ⟨⟨l.drop k ++ r, by rw [← List.append_assoc, List.take_append_drop]⟩, ⟨r, ?_⟩⟩
    have e : l ++ r = l.take k ++ (l.drop k ++ r) := by rw [← List.append_assoc, List.take_append_drop]
    rw [e, List.drop_left]
  · rintro ⟨⟨r, rfl⟩, h2⟩
    rw [List.drop_left] at h2
    obtain ⟨q, rfl⟩ := h2
    exact ⟨q, by rw [← List.append_assoc, List.take_append_drop]⟩

theorem split_false (s l : List UInt8) (i k : Nat) (hi : i ≤ s.length) (h : okL s i (l.take k) = false) : okL s i l = false := by
  cases hw : okL s i l with
  | false => rfl
  | true =>
    rw [okL_iff s i l hi, split_iff _ _ k] at hw
    rw [(okL_iff s i _ hi).2 hw.1] at h
    cases h

theorem split_true (s l : List UInt8) (i k : Nat) (hi : i ≤ s.length) (hk : k ≤ l.length) (h : okL s i (l.take k) = true) : i + k ≤ s.length ∧ okL s (i + k) (l.drop k) = okL s i l := by
  have hik : i + k ≤ s.length := by
    unfold okL at h
    simp at h
    have := h.1
    omega
  refine ⟨hik, ?_⟩
  rw [Bool.eq_iff_iff, okL_iff s _ _ hik, okL_iff s i l hi, split_iff _ l k]
  rw [List.length_take, Nat.min_eq_left hk, List.drop_drop]
  constructor
  · intro h2
    exact ⟨(okL_iff s i _ hi).1 h, h2⟩
  · exact fun h2 => h2.2

/-- The piece s[i:j] stands at i. -/
theorem okL_piece (s : List UInt8) (i j : Nat) (hij : i ≤ j) (hj : j ≤ s.length) : okL s i ((s.drop i).take (j - i)) = true := by
  rw [okL_iff s i _ (by omega)]
  exact List.take_prefix _ _

theorem okL_long (s : List UInt8) (i : Nat) (l : List UInt8) (h : s.length < i + l.length) : okL s i l = false := by
  unfold okL
  rw [decide_eq_false (by omega), Bool.false_and]

/-- The piece with one byte set stands at i just where that byte was there. -/
theorem okL_set (s : List UInt8) (i j p : Nat) (x : UInt8) (hij : i ≤ j) (hj : j ≤ s.length) (hp : p < j - i) :
    okL s i (((s.drop i).take (j - i)).set p x) = (x == ((s.drop i).take (j - i)).getD p 0) := by
  have hl : ((s.drop i).take (j - i)).length = j - i := by simp; omega
  unfold okL
  rw [List.length_set, hl, decide_eq_true (by omega), Bool.true_and]
  generalize (s.drop i).take (j - i) = m at hl
  rw [Bool.eq_iff_iff, beq_iff_eq, beq_iff_eq]
  constructor
  · intro h
    have h2 := congrArg (fun q => q.getD p 0) h
    simp [List.getD, hl, hp] at h2
    simp [List.getD, hl, hp, h2]
  · intro h
    subst h
    have hpm : p < m.length := by omega
    simp [List.getD, hpm]

end Go.Proofs.Qxb6618500a.Plain
