/-
  THE PLAIN LAWS behind both statements of this seat: where a text is cut, and well-formed UTF-8. No Go in sight.
-/
namespace Go.Proofs.Qxb6618510a.Plain

/-- The byte at place i, as a number; 0 behind the end. -/
def gi (l : List UInt8) (i : Nat) : Int := ((l.getD i 0).toNat : Int)
theorem gi_range (l : List UInt8) (i : Nat) : 0 ≤ gi l i ∧ gi l i ≤ 255 := by
  unfold gi
  have := (l.getD i 0).toNat_lt
  omega
theorem gi_take (l : List UInt8) (i j : Nat) (h : i < j) : gi (l.take j) i = gi l i := by
  unfold gi
  rw [List.getD_eq_getElem?_getD, List.getD_eq_getElem?_getD, List.getElem?_take_of_lt h]
theorem gi_drop (l : List UInt8) (i j : Nat) : gi (l.drop j) i = gi l (j + i) := by
  unfold gi
  rw [List.getD_eq_getElem?_getD, List.getD_eq_getElem?_getD, List.getElem?_drop]
theorem gi_left (a b : List UInt8) (i : Nat) (h : i < a.length) : gi (a ++ b) i = gi a i := by
  unfold gi
  rw [List.getD_eq_getElem?_getD, List.getD_eq_getElem?_getD, List.getElem?_append_left h]
theorem gi_right (a b : List UInt8) (i : Nat) (h : a.length ≤ i) : gi (a ++ b) i = gi b (i - a.length) := by
  unfold gi
  rw [List.getD_eq_getElem?_getD, List.getD_eq_getElem?_getD, List.getElem?_append_right h]

/-- Can this byte begin a character? -/
def rs (b : Int) : Bool := decide (b < 128 ∨ 191 < b)

/-! ### Where a long text is cut -/
/-- The greatest place at most k that begins a character (0 if there is none). -/
def lastStart (l : List UInt8) : Nat → Nat
  | 0 => 0
  | k + 1 => if rs (gi l (k + 1)) = true then k + 1 else lastStart l k

theorem lastStart_le (l : List UInt8) : ∀ k, lastStart l k ≤ k
  | 0 => Nat.le_refl 0
  | k + 1 => by
    unfold lastStart
    split
    · exact Nat.le_refl _
    · have := lastStart_le l k
      omega

theorem lastStart_rs (l : List UInt8) : ∀ k, (∃ i, i ≤ k ∧ rs (gi l i) = true) → rs (gi l (lastStart l k)) = true
  | 0, ⟨i, hi, h⟩ => by
    have : i = 0 := by omega
    subst this
    exact h
  | k + 1, ⟨i, hi, h⟩ => by
    unfold lastStart
    split
    · assumption
    · rename_i hk
      refine lastStart_rs l k ⟨i, ?_, h⟩
      rcases Nat.lt_or_ge i (k + 1) with h1 | h1
      · omega
      · have : i = k + 1 := by omega
        subst this
        exact absurd h hk

theorem lastStart_succ (l : List UInt8) (k : Nat) : lastStart l (k + 1) = if rs (gi l (k + 1)) = true then k + 1 else lastStart l k := rfl

theorem lastStart_no (l : List UInt8) (k : Nat) : ∀ j, lastStart l k < j → j ≤ k → rs (gi l j) = false := by
  induction k with
  | zero => intro j h1 h2; omega
  | succ k ih =>
    intro j h1 h2
    rw [lastStart_succ] at h1
    by_cases hk : rs (gi l (k + 1)) = true
    · rw [if_pos hk] at h1; omega
    · rw [if_neg hk] at h1
      by_cases hj : j = k + 1
      · subst hj
        simpa using hk
      · exact ih j h1 (by omega)

theorem lastStart_congr (l m : List UInt8) : ∀ k, (∀ i, i ≤ k → gi l i = gi m i) → lastStart l k = lastStart m k
  | 0, _ => rfl
  | k + 1, h => by
    unfold lastStart
    rw [h (k + 1) (Nat.le_refl _), lastStart_congr l m k (fun i hi => h i (by omega))]

theorem lastStart_ge (l : List UInt8) (k i : Nat) (hi : i ≤ k) (h : rs (gi l i) = true) : i ≤ lastStart l k := by
  rcases Nat.lt_or_ge (lastStart l k) i with h1 | h1
  · rw [lastStart_no l k i h1 hi] at h
    cases h
  · exact h1

/-! ### Well-formed UTF-8 -/
/-- The length of the character at the head, 0 if none is there. -/
def chr (l : List UInt8) : Nat :=
  if gi l 0 < 128 then 1
  else if 194 ≤ gi l 0 ∧ gi l 0 ≤ 223 ∧ 2 ≤ l.length ∧ 128 ≤ gi l 1 ∧ gi l 1 ≤ 191 then 2
  else if 224 ≤ gi l 0 ∧ gi l 0 ≤ 239 ∧ 3 ≤ l.length ∧ (128 ≤ gi l 1 ∧ gi l 1 ≤ 191 ∧ (gi l 0 = 224 → 160 ≤ gi l 1) ∧ (gi l 0 = 237 → gi l 1 ≤ 159)) ∧ 128 ≤ gi l 2 ∧ gi l 2 ≤ 191 then 3
  else if 240 ≤ gi l 0 ∧ gi l 0 ≤ 244 ∧ 4 ≤ l.length ∧ (128 ≤ gi l 1 ∧ gi l 1 ≤ 191 ∧ (gi l 0 = 240 → 144 ≤ gi l 1) ∧ (gi l 0 = 244 → gi l 1 ≤ 143)) ∧ (128 ≤ gi l 2 ∧ gi l 2 ≤ 191) ∧ 128 ≤ gi l 3 ∧ gi l 3 ≤ 191 then 4
  else 0

/-- Well-formed, with fuel. -/
def vf : Nat → List UInt8 → Bool
  | 0, l => l.isEmpty
  | f + 1, l => l.isEmpty || (decide (chr l ≠ 0) && vf f (l.drop (chr l)))
def valid (l : List UInt8) : Bool := vf l.length l

theorem vf_two (f : Nat) : ∀ (g : Nat) (l : List UInt8), l.length ≤ f → l.length ≤ g → vf f l = vf g l := by
  induction f with
  | zero =>
    intro g l h _
    have : l = [] := List.eq_nil_of_length_eq_zero (by omega)
    subst this
    cases g <;> rfl
  | succ f ih =>
    intro g l h hg
    cases g with
    | zero =>
      have : l = [] := List.eq_nil_of_length_eq_zero (by omega)
      subst this
      rfl
    | succ g =>
      simp only [vf]
      by_cases h0 : chr l = 0
      · simp [h0]
      · have hl : (l.drop (chr l)).length ≤ l.length - 1 := by simp; omega
        rw [ih g _ (by omega) (by omega)]
theorem vf_fuel (f : Nat) (l : List UInt8) (h : l.length ≤ f) : vf f l = valid l := vf_two f l.length l h (Nat.le_refl _)

theorem valid_nil : valid [] = true := rfl
/-- One character and the rest. -/
theorem valid_step (l : List UInt8) (h : l ≠ []) : valid l = (decide (chr l ≠ 0) && valid (l.drop (chr l))) := by
  cases l with
  | nil => exact absurd rfl h
  | cons c r =>
    show vf (r.length + 1) (c :: r) = _
    simp only [vf]
    by_cases h0 : chr (c :: r) = 0
    · simp [h0]
    · rw [vf_fuel r.length _ (by simp; omega)]
      simp
theorem valid_bad (l : List UInt8) (h : l ≠ []) (h0 : chr l = 0) : valid l = false := by
  rw [valid_step l h, h0]; rfl
theorem valid_good (l : List UInt8) (h : l ≠ []) (h0 : chr l ≠ 0) : valid l = valid (l.drop (chr l)) := by
  rw [valid_step l h, decide_eq_true h0, Bool.true_and]

/-- What is known of a character at the head. -/
theorem chr_facts (l : List UInt8) (hl : l ≠ []) (h : chr l ≠ 0) : 1 ≤ chr l ∧ chr l ≤ 4 ∧ chr l ≤ l.length ∧ rs (gi l 0) = true ∧ ∀ j, 0 < j → j < chr l → rs (gi l j) = false := by
  have hpos : 1 ≤ l.length := by
    cases l with
    | nil => exact absurd rfl hl
    | cons c r => simp
  have r0 := gi_range l 0
  unfold chr at h ⊢
  split
  · refine ⟨by omega, by omega, hpos, ?_, fun j h1 h2 => by omega⟩
    simp only [rs, decide_eq_true_eq]; omega
  · split
    · refine ⟨by omega, by omega, by omega, ?_, fun j h1 h2 => ?_⟩
      · simp only [rs, decide_eq_true_eq]; omega
      · have : j = 1 := by omega
        subst this
        simp only [rs, decide_eq_false_iff_not]; omega
    · split
      · refine ⟨by omega, by omega, by omega, ?_, fun j h1 h2 => ?_⟩
        · simp only [rs, decide_eq_true_eq]; omega
        · have : j = 1 ∨ j = 2 := by omega
          rcases this with rfl | rfl
          · simp only [rs, decide_eq_false_iff_not]; omega
          · simp only [rs, decide_eq_false_iff_not]; omega
      · split
        · refine ⟨by omega, by omega, by omega, ?_, fun j h1 h2 => ?_⟩
          · simp only [rs, decide_eq_true_eq]; omega
          · have : j = 1 ∨ j = 2 ∨ j = 3 := by omega
            rcases this with rfl | rfl | rfl
            · simp only [rs, decide_eq_false_iff_not]; omega
            · simp only [rs, decide_eq_false_iff_not]; omega
            · simp only [rs, decide_eq_false_iff_not]; omega
        · rename_i h1 h2 h3 h4
          rw [if_neg h1, if_neg h2, if_neg h3, if_neg h4] at h
          exact absurd rfl h

/-- The character at the head is one of its own bytes alone. -/
theorem chr_congr (l m : List UInt8) (h : chr l ≠ 0) (hl : chr l ≤ m.length) (hg : ∀ i, i < chr l → gi m i = gi l i) : chr m = chr l := by
  have r0 := gi_range l 0
  unfold chr at h hl hg
  split at h
  · rename_i c1
    rw [if_pos c1] at hl hg
    unfold chr
    rw [if_pos c1, hg 0 (by omega), if_pos c1]
  · rename_i c1
    rw [if_neg c1] at hl hg
    split at h
    · rename_i c2
      rw [if_pos c2] at hl hg
      have e0 := hg 0 (by omega)
      have e1 := hg 1 (by omega)
      unfold chr
      rw [if_neg c1, if_pos c2, e0, e1, if_neg c1, if_pos ⟨c2.1, c2.2.1, hl, c2.2.2.2⟩]
    · rename_i c2
      rw [if_neg c2] at hl hg
      split at h
      · rename_i c3
        rw [if_pos c3] at hl hg
        have e0 := hg 0 (by omega)
        have e1 := hg 1 (by omega)
        have e2 := hg 2 (by omega)
        unfold chr
        rw [if_neg c1, if_neg c2, if_pos c3, e0, e1, e2, if_neg c1, if_neg (by omega), if_pos ⟨c3.1, c3.2.1, hl, c3.2.2.2⟩]
      · rename_i c3
        rw [if_neg c3] at hl hg
        split at h
        · rename_i c4
          rw [if_pos c4] at hl hg
          have e0 := hg 0 (by omega)
          have e1 := hg 1 (by omega)
          have e2 := hg 2 (by omega)
          have e3 := hg 3 (by omega)
          unfold chr
          rw [if_neg c1, if_neg c2, if_neg c3, if_pos c4, e0, e1, e2, e3, if_neg c1, if_neg (by omega), if_neg (by omega), if_pos ⟨c4.1, c4.2.1, hl, c4.2.2.2⟩]
        · exact absurd rfl h

/-- Cut inside its first character a text has none at its head. -/
theorem chr_short (l : List UInt8) (j : Nat) (h : chr l ≠ 0) (h0 : 0 < j) (hj : j < chr l) : chr (l.take j) = 0 := by
  have e0 : gi (l.take j) 0 = gi l 0 := gi_take l 0 j h0
  have hlen : (l.take j).length ≤ j := by simp; omega
  unfold chr at h hj
  unfold chr
  rw [e0]
  split at h
  · rename_i c1
    rw [if_pos c1] at hj
    omega
  · rename_i c1
    rw [if_neg c1] at hj
    rw [if_neg c1]
    split at h
    · rename_i c2
      rw [if_pos c2] at hj
      rw [if_neg (by omega), if_neg (by omega), if_neg (by omega)]
    · rename_i c2
      rw [if_neg c2] at hj
      split at h
      · rename_i c3
        rw [if_pos c3] at hj
        rw [if_neg (by omega), if_neg (by omega), if_neg (by omega)]
      · rename_i c3
        rw [if_neg c3] at hj
        split at h
        · rename_i c4
          rw [if_pos c4] at hj
          rw [if_neg (by omega), if_neg (by omega), if_neg (by omega)]
        · exact absurd rfl h

/-- Well-formed texts join. -/
theorem valid_append : ∀ (n : Nat) (t u : List UInt8), t.length ≤ n → valid t = true → valid u = true → valid (t ++ u) = true
  | 0, t, u, hn, _, hu => by
    have : t = [] := List.eq_nil_of_length_eq_zero (by omega)
    subst this
    exact hu
  | n + 1, t, u, hn, ht, hu => by
    by_cases h0 : t = []
    · subst h0
      exact hu
    · have hc : chr t ≠ 0 := by
        intro e
        rw [valid_bad t h0 e] at ht
        cases ht
      obtain ⟨f1, f2, f3, f4, f5⟩ := chr_facts t h0 hc
      have hcm : chr (t ++ u) = chr t := chr_congr t (t ++ u) hc (by simp; omega) (fun i hi => gi_left t u i (by omega))
      rw [valid_good (t ++ u) (by simp [h0]) (by rw [hcm]; exact hc), hcm, List.drop_append_of_le_length f3]
      rw [valid_good t h0 hc] at ht
      exact valid_append n _ u (by simp; omega) ht hu

/-- Of a well-formed text: cut at j it is well-formed just where a character begins at j; and among any four places one begins a character. -/
theorem valid_cut : ∀ (n : Nat) (w : List UInt8), w.length ≤ n → valid w = true → ∀ j, j < w.length → valid (w.take j) = rs (gi w j)
  | 0, w, hn, _, j, hj => by omega
  | n + 1, w, hn, hw, j, hj => by
    have h0 : w ≠ [] := by
      intro e
      subst e
      simp at hj
    have hc : chr w ≠ 0 := by
      intro e
      rw [valid_bad w h0 e] at hw
      cases hw
    obtain ⟨f1, f2, f3, f4, f5⟩ := chr_facts w h0 hc
    by_cases j0 : j = 0
    · subst j0
      rw [f4]
      rfl
    · have hne : w.take j ≠ [] := by
        intro e
        have := congrArg List.length e
        rw [List.length_take, List.length_nil] at this
        omega
      by_cases hjc : j < chr w
      · rw [f5 j (by omega) hjc, valid_bad _ hne (chr_short w j hc (by omega) hjc)]
      · have hcm : chr (w.take j) = chr w := chr_congr w (w.take j) hc (by simp; omega) (fun i hi => gi_take w i j (by omega))
        rw [valid_good _ hne (by rw [hcm]; exact hc), hcm]
        rw [valid_good w h0 hc] at hw
        have ih := valid_cut n (w.drop (chr w)) (by simp; omega) hw (j - chr w) (by simp; omega)
        rw [gi_drop, show chr w + (j - chr w) = j by omega] at ih
        rw [List.drop_take]
        exact ih

theorem valid_head (w : List UInt8) (h0 : w ≠ []) (hw : valid w = true) : rs (gi w 0) = true := by
  have hc : chr w ≠ 0 := by
    intro e
    rw [valid_bad w h0 e] at hw
    cases hw
  exact (chr_facts w h0 hc).2.2.2.1

theorem valid_four : ∀ (n : Nat) (w : List UInt8), w.length ≤ n → valid w = true → ∀ j, j + 3 < w.length → ∃ i, j ≤ i ∧ i ≤ j + 3 ∧ rs (gi w i) = true
  | 0, w, hn, _, j, hj => by omega
  | n + 1, w, hn, hw, j, hj => by
    have h0 : w ≠ [] := by
      intro e
      subst e
      simp at hj
    have hc : chr w ≠ 0 := by
      intro e
      rw [valid_bad w h0 e] at hw
      cases hw
    obtain ⟨f1, f2, f3, f4, f5⟩ := chr_facts w h0 hc
    by_cases j0 : j = 0
    · subst j0
      exact ⟨0, Nat.le_refl _, by omega, f4⟩
    · rw [valid_good w h0 hc] at hw
      by_cases hjc : j < chr w
      · have hne : w.drop (chr w) ≠ [] := by
          intro e
          have := congrArg List.length e
          simp at this
          omega
        have hh := valid_head _ hne hw
        rw [gi_drop, Nat.add_zero] at hh
        exact ⟨chr w, by omega, by omega, hh⟩
      · obtain ⟨i, h1, h2, h3⟩ := valid_four n (w.drop (chr w)) (by simp; omega) hw (j - chr w) (by simp; omega)
        rw [gi_drop] at h3
        exact ⟨chr w + i, by omega, by omega, h3⟩

/-! ### What the second law asks -/
theorem long_start (w : List UInt8) (hw : valid w = true) (hl : 40 < w.length) : 37 ≤ lastStart w 40 ∧ rs (gi w (lastStart w 40)) = true := by
  obtain ⟨i, h1, h2, h3⟩ := valid_four w.length w (Nat.le_refl _) hw 37 (by omega)
  exact ⟨Nat.le_trans h1 (lastStart_ge w 40 i h2 h3), lastStart_rs w 40 ⟨i, h2, h3⟩⟩
theorem prefix_valid (w : List UInt8) (hw : valid w = true) (hl : 40 < w.length) : valid (w.take (lastStart w 40)) = true := by
  have := lastStart_le w 40
  rw [valid_cut w.length w (Nat.le_refl _) hw _ (by omega)]
  exact (long_start w hw hl).2
theorem longer_bad (w : List UInt8) (hw : valid w = true) (hl : 40 < w.length) (j : Nat) (h1 : lastStart w 40 < j) (h2 : j ≤ 40) : valid (w.take j) = false := by
  rw [valid_cut w.length w (Nat.le_refl _) hw j (by omega)]
  exact lastStart_no w 40 j h1 h2
theorem start_ge (t u : List UInt8) (hu : valid u = true) (ht : t.length ≤ 40) (hl : 40 < (t ++ u).length) : t.length ≤ lastStart (t ++ u) 40 := by
  have hne : u ≠ [] := by
    intro e
    subst e
    simp at hl
    omega
  refine lastStart_ge _ 40 _ ht ?_
  rw [gi_right t u _ (Nat.le_refl _), Nat.sub_self]
  exact valid_head u hne hu
end Go.Proofs.Qxb6618510a.Plain
