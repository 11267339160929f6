/-
  SEAT b1511a: THE CONTRACT OF 'common' (function 15) at two sorted lists of one-byte names.
-/
import Derived.Test.YbulkaegqPlainB
import Derived.Test.YbulkaegqEqual
import Derived.WalkLawsBesides
namespace Go.Proofs.Ybulkaegq
open Go.RowKit
set_option linter.unusedVariables false

/-- The one-byte name of number x. -/
def nm (x : Int) : ByteArray := strOfNums [x]

theorem nm_toList (x : Int) : (nm x).toList = [UInt8.ofNat x.toNat] := by
  unfold nm
  rw [Lib.strOfNums_toList]
  rfl

theorem nm_less {x y : Int} (hx : 0 ≤ x ∧ x ≤ 255) (hy : 0 ≤ y ∧ y ≤ 255) : Op.bytesLess (nm x).toList (nm y).toList = decide (x < y) := by
  rw [nm_toList, nm_toList]
  have h1 := byte_lt hx hy
  simp only [Op.bytesLess, Bool.and_false, Bool.or_false]
  rw [Bool.eq_iff_iff, decide_eq_true_iff, decide_eq_true_iff]
  exact h1

theorem nm_eq {x y : Int} (hx : 0 ≤ x ∧ x ≤ 255) (hy : 0 ≤ y ∧ y ≤ 255) : ((nm x).toList == (nm y).toList) = decide (x = y) := by
  rw [nm_toList, nm_toList, Bool.eq_iff_iff]
  simp [byte_inj hx hy]

theorem adr {g p n c : Nat} (h : n ≤ c) (hp : p + 1 < n) : (if c - p = 1 then some (⟨g, 2 * p, none⟩ : Addr) else some ⟨g, 2 * p + 2, none⟩) = some ⟨g, 2 * (p + 1), none⟩ := by
  rw [if_neg (by omega), Nat.mul_add]

theorem sl1 {x : Option Addr} {n c p : Nat} : Value.slice x (n - p - 1) (c - p - 1) = Value.slice x (n - (p + 1)) (c - (p + 1)) := by
  rw [Nat.sub_sub, Nat.sub_sub]

theorem ret_i64' {a b : Int} (h : a = b) : Ending.returned (.int .i64 a) = .returned (.int .i64 b) := by rw [h]

def lenOf : Value → Nat | .slice _ n _ => n | _ => 0

set_option maxHeartbeats 2000000 in
theorem common_any (A B : List Int) (gA gB nA nB cA cB : Nat) (w : World) (hA : A.length = nA) (hB : B.length = nB) (lA : nA ≤ cA) (lB : nB ≤ cB) (mA : cA ≤ maxLen) (mB : cB ≤ maxLen) (kA : nA ≤ 768) (kB : nB ≤ 768)
    (sA : A.Pairwise (· ≤ ·)) (sB : B.Pairwise (· ≤ ·)) (rA : ∀ x ∈ A, 0 ≤ x ∧ x < 256) (rB : ∀ x ∈ B, 0 ≤ x ∧ x < 256)
    (fA : ∀ j, j < nA → w.cell? ⟨gA, 2 * j, none⟩ = some (.string (nm (A.getD j 0)))) (fB : ∀ j, j < nB → w.cell? ⟨gB, 2 * j, none⟩ = some (.string (nm (B.getD j 0)))) :
    Calls Yba.prog 15 #[.slice (some ⟨gA, 0, none⟩) nA cA, .slice (some ⟨gB, 0, none⟩) nB cB] w fun e w' => e = .returned (.int .i64 (Plain.M A B)) ∧ ∃ n, w' = w.drewN n := by
  unfold maxLen at mA mB
  have HA : Hid (A.length = nA) := hA
  have HB : Hid (B.length = nB) := hB
  have HsA : Hid (A.Pairwise (· ≤ ·)) := sA
  have HsB : Hid (B.Pairwise (· ≤ ·)) := sB
  have HrA : Hid (∀ x ∈ A, 0 ≤ x ∧ x < 256) := rA
  have HrB : Hid (∀ x ∈ B, 0 ≤ x ∧ x < 256) := rB
  have HfA : Hid (∀ j, j < nA → w.cell? ⟨gA, 2 * j, none⟩ = some (.string (nm (A.getD j 0)))) := fA
  have HfB : Hid (∀ j, j < nB → w.cell? ⟨gB, 2 * j, none⟩ = some (.string (nm (B.getD j 0)))) := fB
  clear hA hB sA sB rA rB fA fB
  go_enter Yba.func15, Yba.ntmps15
  go_wp2_with fail
  go_loopw [0, 1, 5] (fun a b t wr => ∃ p q c n ao bo, p ≤ nA ∧ q ≤ nB ∧ a = .slice ao (nA - p) (cA - p) ∧ b = .slice bo (nB - q) (cB - q) ∧ (p < nA → ao = some ⟨gA, 2 * p, none⟩) ∧ (q < nB → bo = some ⟨gB, 2 * q, none⟩) ∧ t = .int .i64 (c : Nat) ∧ c ≤ p ∧ wr = w.drewN n ∧ Hid (Plain.M (A.drop p) (B.drop q) + c = Plain.M A B)) (fun a b _ _ => lenOf a + lenOf b)
  case atStart => exact ⟨0, 0, 0, 0, _, _, Nat.zero_le _, Nat.zero_le _, rfl, rfl, fun _ => rfl, fun _ => rfl, rfl, Nat.le_refl _, rfl, Plain.step_start A B⟩
  case round =>
    obtain ⟨p, q, c, n, ao, bo, hp, hq, rfl, rfl, hao, hbo, rfl, hc, rfl, hM⟩ := hrel
    by_cases h1 : p < nA
    · by_cases h2 : q < nB
      · obtain rfl := hao h1
        obtain rfl := hbo h2
        clear hao hbo
        obtain ⟨x, hx⟩ : ∃ x, x = A.getD p 0 := ⟨_, rfl⟩
        obtain ⟨y, hy⟩ : ∃ y, y = B.getD q 0 := ⟨_, rfl⟩
        have gx : w.cell? ⟨gA, 2 * p, none⟩ = some (.string (nm x)) := by rw [hx]; exact HfA.out p h1
        have gy : w.cell? ⟨gB, 2 * q, none⟩ = some (.string (nm y)) := by rw [hy]; exact HfB.out q h2
        have rx : 0 ≤ x ∧ x ≤ 255 := by rw [hx]; have := HrA.out _ (Plain.getD_mem (A := A) (k := p) (by rw [HA.out]; exact h1)); omega
        have ry : 0 ≤ y ∧ y ≤ 255 := by rw [hy]; have := HrB.out _ (Plain.getD_mem (A := B) (k := q) (by rw [HB.out]; exact h2)); omega
        have HX : Hid (x = A.getD p 0) := hx
        have HY : Hid (y = B.getD q 0) := hy
        clear hx hy
        have i1 : (0 : Int) < ((nA - p : Nat) : Int) := by omega
        have i2 : (0 : Int) < ((nB - q : Nat) : Int) := by omega
        have i3 : (1 : Int) ≤ ((nA - p : Nat) : Int) := by omega
        have i4 : (1 : Int) ≤ ((nB - q : Nat) : Int) := by omega
        have i5 : ((nA - p : Nat) : Int) ≤ ((cA - p : Nat) : Int) := by omega
        have i6 : ((nB - q : Nat) : Int) ≤ ((cB - q : Nat) : Int) := by omega
        have e1 := nm_less rx ry
        have e2 := nm_eq rx ry
        have pA : p < A.length := by rw [HA.out]; exact h1
        have pB : q < B.length := by rw [HB.out]; exact h2
        have PA : Hid (p < A.length) := pA
        have PB : Hid (q < B.length) := pB
        clear pA pB
        by_cases hlt : x < y
        · rw [decide_eq_true hlt] at e1
          clear e2
          go_wp2_with fail
          go_quiet (fail)
          go_wp2_with fail
          go_roundw
          case rel => exact ⟨p + 1, q, c, _, _, _, by omega, hq, sl1, rfl, fun h => adr lA h, fun _ => rfl, rfl, by omega, rfl, Plain.step_left PA.out PB.out HsB.out (by rw [← HX.out, ← HY.out]; exact hlt) hM.out⟩
          case measure => simp only [lenOf]; omega
        · rw [decide_eq_false hlt] at e1
          by_cases heq : x = y
          · rw [decide_eq_true heq] at e2
            have HQ : Hid (x = y) := heq
            clear heq
            go_wp2_with fail
            go_quiet (fail)
            go_wp2_with fail
            go_quiet (fail)
            go_wp2_with fail
            go_quiet (fail)
            go_wp2_with fail
            go_roundw
            case rel => exact ⟨p + 1, q + 1, c + 1, _, _, _, by omega, by omega, sl1, sl1, fun h => adr lA h, fun h => adr lB h, by go_num, by omega, World.drewN_drewN .., Plain.step_both PA.out PB.out (by rw [← HX.out]; omega) (by rw [← HX.out]; omega) (by rw [← HX.out, ← HY.out]; exact HQ.out) hM.out⟩
            case measure => simp only [lenOf]; omega
          · rw [decide_eq_false heq] at e2
            have HQ : Hid (y < x) := by show y < x; omega
            clear heq
            go_wp2_with fail
            go_quiet (fail)
            go_wp2_with fail
            go_quiet (fail)
            go_wp2_with fail
            go_roundw
            case rel => exact ⟨p, q + 1, c, _, _, _, hp, by omega, rfl, sl1, fun _ => rfl, fun h => adr lB h, rfl, by omega, rfl, Plain.step_right PA.out PB.out HsA.out (by rw [← HX.out, ← HY.out]; exact HQ.out) hM.out⟩
            case measure => simp only [lenOf]; omega
      · have hq' : nB - q = 0 := by omega
        clear hao hbo
        have i1 : (0 : Int) < ((nA - p : Nat) : Int) := by omega
        have HF : Hid (c = Plain.M A B) := Plain.step_out (Or.inr (by rw [HB.out]; omega)) hM.out
        clear hM
        go_wp2_with fail
        go_ret
        exact ⟨ret_i64' (by rw [HF.out]), _, rfl⟩
    · have hp' : nA - p = 0 := by omega
      clear hao hbo
      have HF : Hid (c = Plain.M A B) := Plain.step_out (Or.inl (by rw [HA.out]; omega)) hM.out
      clear hM
      go_wp2_with fail
      go_ret
      exact ⟨ret_i64' (by rw [HF.out]), _, rfl⟩

end Go.Proofs.Ybulkaegq
