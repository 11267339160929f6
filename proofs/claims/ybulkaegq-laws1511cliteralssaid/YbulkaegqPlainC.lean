/-
  THE PLAIN LAWS OF SEAT b1511a, the second part (line ends): lists of integers, no Go in sight.
-/
namespace Go.Proofs.Ybulkaegq.Plain

/-- How many of the first k are 10. -/
def cnt (Z : List Int) : Nat → Nat
  | 0 => 0
  | k + 1 => cnt Z k + (if Z.getD k 0 = 10 then 1 else 0)

theorem cnt_le (Z : List Int) : ∀ k, cnt Z k ≤ k
  | 0 => Nat.le_refl _
  | k + 1 => by
    have := cnt_le Z k
    unfold cnt
    split <;> omega

theorem cnt_yes {Z : List Int} {k : Nat} (h : Z.getD k 0 = 10) : cnt Z (k + 1) = cnt Z k + 1 := by
  rw [cnt, if_pos h]

theorem cnt_no {Z : List Int} {k : Nat} (h : ¬ Z.getD k 0 = 10) : cnt Z (k + 1) = cnt Z k := by
  rw [cnt, if_neg h]; rfl

/-- One of the first k pairs holds 10. -/
def hit (Z : List Int) : Nat → Bool
  | 0 => false
  | k + 1 => hit Z k || (decide (Z.getD (2 * k) 0 ≤ 10) && decide (10 ≤ Z.getD (2 * k + 1) 0))

theorem hit_yes {Z : List Int} {k : Nat} (h1 : Z.getD (2 * k) 0 ≤ 10) (h2 : 10 ≤ Z.getD (2 * k + 1) 0) : hit Z (k + 1) = true := by
  unfold hit
  rw [decide_eq_true h1, decide_eq_true h2]
  simp

theorem hit_no1 {Z : List Int} {k : Nat} (h1 : ¬ Z.getD (2 * k) 0 ≤ 10) : hit Z (k + 1) = hit Z k := by
  unfold hit
  rw [decide_eq_false h1]
  simp only [Bool.false_and, Bool.or_false]
  cases k <;> rfl

theorem hit_no2 {Z : List Int} {k : Nat} (h2 : ¬ 10 ≤ Z.getD (2 * k + 1) 0) : hit Z (k + 1) = hit Z k := by
  unfold hit
  rw [decide_eq_false h2]
  simp only [Bool.and_false, Bool.or_false]
  cases k <;> rfl

theorem hit_mono {Z : List Int} {k : Nat} (h : hit Z k = true) : ∀ d, hit Z (k + d) = true
  | 0 => h
  | d + 1 => by
    have := hit_mono h d
    show hit Z ((k + d) + 1) = true
    unfold hit
    rw [this]
    rfl

/-- 1 if one of the first k pairs holds 10, else 0. -/
def hitN (Z : List Int) (k : Nat) : Int := if hit Z k = true then 1 else 0

theorem hitN_yes {Z : List Int} {k : Nat} (h : hit Z k = true) : hitN Z k = 1 := by rw [hitN, if_pos h]
theorem hitN_no {Z : List Int} {k : Nat} (h : hit Z k = false) : hitN Z k = 0 := by rw [hitN, if_neg (by rw [h]; decide)]

/-- The sum, and the greatest, of the first k of some counts. -/
def sumTo (N : Nat → Nat) : Nat → Nat
  | 0 => 0
  | k + 1 => sumTo N k + N k

def mostTo (N : Nat → Nat) : Nat → Nat
  | 0 => 0
  | k + 1 => if mostTo N k < N k then N k else mostTo N k

theorem sumTo_le (N : Nat → Nat) (c : Nat) : ∀ k, (∀ j, j < k → N j ≤ c) → sumTo N k ≤ k * c
  | 0, _ => Nat.zero_le _
  | k + 1, h => by
    have a := sumTo_le N c k (fun j hj => h j (by omega))
    have b := h k (by omega)
    rw [sumTo, Nat.add_mul]
    omega

theorem mostTo_le (N : Nat → Nat) (c : Nat) : ∀ k, (∀ j, j < k → N j ≤ c) → mostTo N k ≤ c
  | 0, _ => Nat.zero_le _
  | k + 1, h => by
    have a := mostTo_le N c k (fun j hj => h j (by omega))
    have b := h k (by omega)
    rw [mostTo]
    split <;> omega

theorem mostTo_yes {N : Nat → Nat} {k : Nat} (h : mostTo N k < N k) : mostTo N (k + 1) = N k := by rw [mostTo, if_pos h]
theorem mostTo_no {N : Nat → Nat} {k : Nat} (h : ¬ mostTo N k < N k) : mostTo N (k + 1) = mostTo N k := by rw [mostTo, if_neg h]

/-- A row of n cells of which the first k have been filled: the elements of l, by m. -/
def fillTo (m : Int) (l : List Int) (n k : Nat) : List Int := (List.range n).map fun j => if j < k then l.getD j 0 % m else 0

theorem fillTo_length (m : Int) (l : List Int) (n k : Nat) : (fillTo m l n k).length = n := by simp [fillTo]

theorem fillTo_get (m : Int) (l : List Int) (n k j : Nat) (h : j < n) : (fillTo m l n k).getD j 0 = if j < k then l.getD j 0 % m else 0 := by
  simp [fillTo, List.getD, h]

theorem fillTo_zero (m : Int) (l : List Int) (n : Nat) : fillTo m l n 0 = List.replicate n 0 := by
  refine List.ext_getElem (by simp [fillTo]) fun j h1 h2 => ?_
  simp [fillTo]

theorem fillTo_set (m : Int) (l : List Int) (n k : Nat) : (fillTo m l n k).set k (l.getD k 0 % m) = fillTo m l n (k + 1) := by
  refine List.ext_getElem (by simp [fillTo]) fun j h1 h2 => ?_
  rw [List.getElem_set]
  by_cases e : k = j
  · subst e
    simp [fillTo]
  · rw [if_neg e]
    simp only [fillTo, List.getElem_map, List.getElem_range]
    by_cases e2 : j < k
    · rw [if_pos e2, if_pos (by omega)]
    · rw [if_neg e2, if_neg (by omega)]

end Go.Proofs.Ybulkaegq.Plain
