/-
  THE PLAIN LAWS OF SEAT b1511a, the third part (common names of two sorted lists): lists of integers, no Go in sight.
-/
import Derived.Test.YbulkaegqPlainC
namespace Go.Proofs.Ybulkaegq.Plain

/-- How often name i is laid. -/
def mul (m : List Int) (i : Nat) : Nat := (m.getD i 0 % 4).toNat

theorem mul_lt (m : List Int) (i : Nat) : mul m i < 4 := by unfold mul; omega

/-- The names laid by the first k places. -/
def buildTo (m : List Int) : Nat → List Int
  | 0 => []
  | k + 1 => buildTo m k ++ List.replicate (mul m k) (k : Int)

theorem buildTo_range (m : List Int) : ∀ k x, x ∈ buildTo m k → 0 ≤ x ∧ x < (k : Int)
  | 0, x, h => by simp [buildTo] at h
  | k + 1, x, h => by
    rw [buildTo, List.mem_append, List.mem_replicate] at h
    rcases h with h | ⟨_, h⟩
    · have := buildTo_range m k x h
      omega
    · omega

theorem buildTo_sorted (m : List Int) : ∀ k, (buildTo m k).Pairwise (· ≤ ·)
  | 0 => by simp [buildTo]
  | k + 1 => by
    rw [buildTo, List.pairwise_append]
    refine ⟨buildTo_sorted m k, ?_, ?_⟩
    · rw [List.pairwise_replicate]
      right
      exact Int.le_refl _
    · intro a ha b hb
      have := buildTo_range m k a ha
      have := (List.mem_replicate.1 hb).2
      omega

theorem buildTo_length (m : List Int) : ∀ k, (buildTo m k).length ≤ 3 * k
  | 0 => by simp [buildTo]
  | k + 1 => by
    have := buildTo_length m k
    have := mul_lt m k
    rw [buildTo, List.length_append, List.length_replicate]
    omega

theorem count_buildTo (m : List Int) (i : Nat) : ∀ k, (buildTo m k).count (i : Int) = if i < k then mul m i else 0
  | 0 => by simp [buildTo]
  | k + 1 => by
    rw [buildTo, List.count_append, count_buildTo m i k, List.count_replicate]
    by_cases h : i < k
    · have e : ((k : Int) == (i : Int)) = false := by simp; omega
      rw [e]
      simp [h, show i < k + 1 by omega]
    · by_cases e : i = k
      · subst e
        simp
      · have e' : ((k : Int) == (i : Int)) = false := by simp; omega
        rw [e']
        simp [h, show ¬ i < k + 1 by omega]

/-- The common names, counted name by name. -/
def M (A B : List Int) : Nat := sumTo (fun i => min (A.count (i : Int)) (B.count (i : Int))) 256

theorem sumTo_congr {f g : Nat → Nat} : ∀ k, (∀ i, i < k → f i = g i) → sumTo f k = sumTo g k
  | 0, _ => rfl
  | k + 1, h => by rw [sumTo, sumTo, sumTo_congr k (fun i hi => h i (by omega)), h k (by omega)]

theorem sumTo_zero {f : Nat → Nat} : ∀ k, (∀ i, i < k → f i = 0) → sumTo f k = 0
  | 0, _ => rfl
  | k + 1, h => by rw [sumTo, sumTo_zero k (fun i hi => h i (by omega)), h k (by omega)]

theorem sumTo_one {f g : Nat → Nat} (x : Nat) (hx : f x = g x + 1) (ho : ∀ i, i ≠ x → f i = g i) : ∀ k, x < k → sumTo f k = sumTo g k + 1
  | 0, h => by omega
  | k + 1, h => by
    by_cases e : x = k
    · subst e
      rw [sumTo, sumTo, hx, sumTo_congr (f := f) (g := g) x (fun i hi => ho i (by omega))]
      omega
    · rw [sumTo, sumTo, sumTo_one x hx ho k (by omega), ho k (by omega)]
      omega

theorem M_nil_left (B : List Int) : M [] B = 0 := sumTo_zero _ fun i _ => by simp
theorem M_nil_right (A : List Int) : M A [] = 0 := sumTo_zero _ fun i _ => by simp

theorem M_left {x y : Int} {xs ys : List Int} (hB : (y :: ys).Pairwise (· ≤ ·)) (h : x < y) : M (x :: xs) (y :: ys) = M xs (y :: ys) := by
  refine sumTo_congr _ fun i _ => ?_
  by_cases e : x = (i : Int)
  · have hn : (y :: ys).count (i : Int) = 0 := by
      rw [List.count_eq_zero]
      intro hm
      rcases List.mem_cons.1 hm with hm | hm
      · omega
      · have := (List.pairwise_cons.1 hB).1 _ hm
        omega
    rw [hn]
    omega
  · rw [List.count_cons_of_ne (by omega)]

theorem M_symm (A B : List Int) : M A B = M B A := sumTo_congr _ fun _ _ => Nat.min_comm _ _

theorem M_right {x y : Int} {xs ys : List Int} (hA : (x :: xs).Pairwise (· ≤ ·)) (h : y < x) : M (x :: xs) (y :: ys) = M (x :: xs) ys := by
  rw [M_symm, M_left hA h, M_symm]

theorem M_both {x : Int} {xs ys : List Int} (h0 : 0 ≤ x) (h1 : x < 256) : M (x :: xs) (x :: ys) = M xs ys + 1 := by
  refine sumTo_one x.toNat ?_ ?_ 256 (by omega)
  · have e : ((x.toNat : Nat) : Int) = x := by omega
    rw [e, List.count_cons_self, List.count_cons_self]
    omega
  · intro i hi
    rw [List.count_cons_of_ne (by omega), List.count_cons_of_ne (by omega)]

/-- What the law wants after k places. -/
def wantTo (ma mb : List Int) : Nat → Nat := sumTo fun i => min (mul ma i) (mul mb i)

theorem wantTo_le (ma mb : List Int) (k : Nat) : wantTo ma mb k ≤ k * 3 :=
  sumTo_le _ 3 k fun i _ => by have := mul_lt ma i; have := mul_lt mb i; omega

theorem wantTo_succ (ma mb : List Int) (k : Nat) : wantTo ma mb (k + 1) = wantTo ma mb k + min (mul ma k) (mul mb k) := rfl

theorem sumTo_more {f : Nat → Nat} (k : Nat) : ∀ d, (∀ i, k ≤ i → f i = 0) → sumTo f (k + d) = sumTo f k
  | 0, _ => rfl
  | d + 1, h => by
    show sumTo f ((k + d) + 1) = _
    rw [sumTo, sumTo_more k d h, h (k + d) (by omega)]
    rfl

theorem M_build (ma mb : List Int) (la lb : Nat) (ha : la ≤ 256) (hb : lb ≤ 256) : M (buildTo ma la) (buildTo mb lb) = wantTo ma mb (min la lb) := by
  unfold M wantTo
  have e : (256 : Nat) = min la lb + (256 - min la lb) := by omega
  rw [e, sumTo_more]
  · refine sumTo_congr _ fun i hi => ?_
    rw [count_buildTo, count_buildTo, if_pos (by omega), if_pos (by omega)]
  · intro i hi
    rw [count_buildTo, count_buildTo]
    by_cases h : i < la
    · rw [if_neg (show ¬ i < lb by omega)]
      omega
    · rw [if_neg h]
      omega

theorem drop_cons' (A : List Int) (k : Nat) (h : k < A.length) : A.drop k = A.getD k 0 :: A.drop (k + 1) := by
  rw [List.drop_eq_getElem_cons h]
  simp [List.getD, h]

theorem getD_mem {A : List Int} {k : Nat} (h : k < A.length) : A.getD k 0 ∈ A := by
  have : A.getD k 0 = A[k] := by simp [List.getD, h]
  rw [this]
  exact List.getElem_mem h

theorem step_left {A B : List Int} {p q c T : Nat} (hp : p < A.length) (hq : q < B.length) (sB : B.Pairwise (· ≤ ·)) (h : A.getD p 0 < B.getD q 0) (hM : M (A.drop p) (B.drop q) + c = T) : M (A.drop (p + 1)) (B.drop q) + c = T := by
  have sB' := sB.drop (i := q)
  rw [drop_cons' B q hq] at sB'
  rw [drop_cons' A p hp, drop_cons' B q hq, M_left sB' h, ← drop_cons' B q hq] at hM
  exact hM

theorem step_right {A B : List Int} {p q c T : Nat} (hp : p < A.length) (hq : q < B.length) (sA : A.Pairwise (· ≤ ·)) (h : B.getD q 0 < A.getD p 0) (hM : M (A.drop p) (B.drop q) + c = T) : M (A.drop p) (B.drop (q + 1)) + c = T := by
  have sA' := sA.drop (i := p)
  rw [drop_cons' A p hp] at sA'
  rw [drop_cons' A p hp, drop_cons' B q hq, M_right sA' h, ← drop_cons' A p hp] at hM
  exact hM

theorem step_both {A B : List Int} {p q c T : Nat} (hp : p < A.length) (hq : q < B.length) (h0 : 0 ≤ A.getD p 0) (h1 : A.getD p 0 < 256) (h : A.getD p 0 = B.getD q 0) (hM : M (A.drop p) (B.drop q) + c = T) : M (A.drop (p + 1)) (B.drop (q + 1)) + (c + 1) = T := by
  rw [drop_cons' A p hp, drop_cons' B q hq, ← h, M_both h0 h1] at hM
  omega

theorem step_out {A B : List Int} {p q c T : Nat} (h : A.length ≤ p ∨ B.length ≤ q) (hM : M (A.drop p) (B.drop q) + c = T) : c = T := by
  rcases h with h | h
  · rw [List.drop_eq_nil_of_le h, M_nil_left] at hM
    omega
  · rw [List.drop_eq_nil_of_le h, M_nil_right] at hM
    omega

theorem step_start (A B : List Int) : M (A.drop 0) (B.drop 0) + 0 = M A B := by
  rw [List.drop_zero, List.drop_zero, Nat.add_zero]

end Go.Proofs.Ybulkaegq.Plain
