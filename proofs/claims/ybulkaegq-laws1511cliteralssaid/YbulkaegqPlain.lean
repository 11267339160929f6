/-
  THE PLAIN LAWS OF SEAT b1511a: lists of integers, no Go in sight.
-/
namespace Go.Proofs.Ybulkaegq.Plain

/-- Byte order: what 'before' computes. -/
def bef : List Int → List Int → Bool
  | [], [] => false
  | [], _ :: _ => true
  | _ :: _, [] => false
  | x :: xs, y :: ys => if x = y then bef xs ys else decide (x < y)

theorem bef_drop (k : Nat) : ∀ (A B : List Int), k ≤ A.length → k ≤ B.length → (∀ j, j < k → A.getD j 0 = B.getD j 0) → bef A B = bef (A.drop k) (B.drop k) := by
  induction k with
  | zero => intro A B _ _ _; rfl
  | succ k ih =>
    intro A B hA hB h
    match A, B with
    | [], _ => simp at hA
    | _ :: _, [] => simp at hB
    | x :: xs, y :: ys =>
      have h0 := h 0 (by omega)
      simp at h0
      subst h0
      simp only [bef, List.drop_succ_cons, if_true]
      refine ih xs ys (by simpa using hA) (by simpa using hB) fun j hj => ?_
      have := h (j + 1) (by omega)
      simpa using this

theorem bef_out (k : Nat) (A B : List Int) (hA : k ≤ A.length) (hB : k ≤ B.length) (h : ∀ j, j < k → A.getD j 0 = B.getD j 0) (ho : A.length ≤ k ∨ B.length ≤ k) : bef A B = decide (A.length < B.length) := by
  rw [bef_drop k A B hA hB h]
  by_cases e1 : A.length ≤ k
  · rw [List.drop_eq_nil_of_le e1]
    by_cases e2 : B.length ≤ k
    · rw [List.drop_eq_nil_of_le e2]
      have : ¬ A.length < B.length := by omega
      simp [bef, this]
    · have hn : (B.drop k).length ≠ 0 := by rw [List.length_drop]; omega
      have : A.length < B.length := by omega
      match hb : B.drop k with
      | [] => rw [hb] at hn; simp at hn
      | y :: ys => simp [bef, this]
  · have e2 : B.length ≤ k := by omega
    rw [List.drop_eq_nil_of_le e2]
    have hn : (A.drop k).length ≠ 0 := by rw [List.length_drop]; omega
    have : ¬ A.length < B.length := by omega
    match ha : A.drop k with
    | [] => rw [ha] at hn; simp at hn
    | y :: ys => simp [bef, this]

theorem drop_cons (A : List Int) (k : Nat) (h : k < A.length) : A.drop k = A.getD k 0 :: A.drop (k + 1) := by
  rw [List.drop_eq_getElem_cons h]
  simp [List.getD, h]

theorem bef_diff (k : Nat) (A B : List Int) (hA : k < A.length) (hB : k < B.length) (h : ∀ j, j < k → A.getD j 0 = B.getD j 0) (hd : A.getD k 0 ≠ B.getD k 0) : bef A B = decide (A.getD k 0 < B.getD k 0) := by
  rw [bef_drop k A B (by omega) (by omega) h, drop_cons A k hA, drop_cons B k hB]
  simp only [bef]
  rw [if_neg hd]

theorem agree_succ {k : Nat} {A B : List Int} (h : ∀ j, j < k → A.getD j 0 = B.getD j 0) (e : A.getD k 0 = B.getD k 0) : ∀ j, j < k + 1 → A.getD j 0 = B.getD j 0 := by
  intro j hj
  by_cases hjk : j = k
  · subst hjk; exact e
  · exact h j (by omega)

theorem bef_self : ∀ A : List Int, bef A A = false
  | [] => rfl
  | x :: xs => by simp only [bef, if_true]; exact bef_self xs

/-- A proper beginning comes before. -/
theorem bef_take : ∀ (m : Nat) (B : List Int), m < B.length → bef (B.take m) B = true
  | _, [], h => by simp at h
  | 0, _ :: _, _ => rfl
  | m + 1, x :: xs, h => by
    simp only [List.take_succ_cons, bef, if_true]
    exact bef_take m xs (by simpa using h)

theorem bef_take_not : ∀ (m : Nat) (B : List Int), bef B (B.take m) = false
  | 0, [] => rfl
  | _ + 1, [] => rfl
  | 0, _ :: _ => rfl
  | m + 1, x :: xs => by
    simp only [List.take_succ_cons, bef, if_true]
    exact bef_take_not m xs

/-- Exactly one of the three. -/
theorem trich : ∀ A B : List Int, (bef A B = true ∧ bef B A = false ∧ A ≠ B) ∨ (bef A B = false ∧ bef B A = true ∧ A ≠ B) ∨ (bef A B = false ∧ bef B A = false ∧ A = B)
  | [], [] => by simp [bef]
  | [], _ :: _ => by simp [bef]
  | _ :: _, [] => by simp [bef]
  | x :: xs, y :: ys => by
    by_cases e : x = y
    · subst e
      simp only [bef, if_true, List.cons.injEq, true_and, ne_eq]
      exact trich xs ys
    · have e' : ¬ y = x := fun h => e h.symm
      simp only [bef, if_neg e', List.cons.injEq, e, false_and, ne_eq, not_false_eq_true, and_true, and_false, or_false]
      by_cases hlt : x < y
      · have : ¬ y < x := by omega
        simp [hlt, this]
      · have : y < x := by omega
        simp [hlt, this]

end Go.Proofs.Ybulkaegq.Plain
