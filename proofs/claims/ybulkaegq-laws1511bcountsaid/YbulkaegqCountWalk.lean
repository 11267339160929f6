/-
  SEAT b1511a: THE WALK OF LawS1511BCount (function 6).
-/
import Derived.Test.YbulkaegqBuild
namespace Go.Proofs.Ybulkaegq
open Go.RowKit
set_option linter.unusedVariables false

theorem Built.len {w0 w : World} {g n cap : Nat} {N : List Int} (h : Built w0 w g n cap N) : N.length = n := h.1

theorem Built.cap {w0 w : World} {g n cap : Nat} {N : List Int} (h : Built w0 w g n cap N) : n ≤ cap ∧ cap ≤ maxLen := by
  obtain ⟨h1, h2, xs, h3, h4⟩ := h
  rcases h3.2 with ⟨e, _⟩ | ⟨g2, cap2, cur, e, hb, _, hx, hy, _⟩
  · simp at e
  · simp only [Value.slice.injEq, Option.some.injEq, Addr.mk.injEq, and_true, true_and] at e
    obtain ⟨rfl, rfl⟩ := e
    exact ⟨hx, hy⟩

set_option maxHeartbeats 2000000 in
theorem count_walk (A B : List Int) (a0 a1 : Option Addr) (len0 cap0 len1 cap1 : Nat) (w : World) (hA : A.length = len0) (hB : B.length = len1) (LA : Lies w a0 A) (LB : Lies w a1 B)
    (rA : ∀ j, 0 ≤ A.getD j 0 ∧ A.getD j 0 ≤ 255) (rB : ∀ j, 0 ≤ B.getD j 0 ∧ B.getD j 0 ≤ 255) (h0 : len0 ≤ 256) (h1 : len1 ≤ 256) :
    Calls Yba.prog 6 #[.slice a0 len0 cap0, .slice a1 len1 cap1] w fun e w' => e = .returned (.bool true) ∧ Below w.heap.size w w' := by
  have HA : Hid (A.length = len0) := hA
  have HB : Hid (B.length = len1) := hB
  have HrA : Hid (∀ j, 0 ≤ A.getD j 0 ∧ A.getD j 0 ≤ 255) := rA
  have HrB : Hid (∀ j, 0 ≤ B.getD j 0 ∧ B.getD j 0 ≤ 255) := rB
  clear hA hB rA rB
  go_enter Yba.func6, Yba.ntmps6
  go_wp2_with fail
  refine (build_any A a0 len0 cap0 w HA.out h0 HrA.out LA).mono ?_
  rintro e w1 ⟨gA, nA, cA, rfl, bA⟩
  have BA : Hid (Built w w1 gA nA cA (Plain.buildTo A len0)) := bA
  clear bA
  go_wp2_with fail
  refine (build_any B a1 len1 cap1 w1 HB.out h1 HrB.out (LB.below BA.out.2.1)).mono ?_
  rintro e w2 ⟨gB, nB, cB, rfl, bB⟩
  have BB : Hid (Built w1 w2 gB nB cB (Plain.buildTo B len1)) := bB
  clear bB
  have hbel : Below w.heap.size w w2 := BA.out.2.1.trans (BB.out.2.1.mono BA.out.2.1.size)
  have HBel : Hid (Below w.heap.size w w2) := hbel
  have LA2 : Hid (Lies w2 a0 A) := LA.below hbel
  have LB2 : Hid (Lies w2 a1 B) := LB.below hbel
  clear hbel LA LB
  go_wp2_with fail
  go_loopw [7, 8] (fun t i wr => ∃ k n : Nat, k ≤ len0 ∧ k ≤ len1 ∧ i = .int .i64 k ∧ t = .int .i64 (Plain.wantTo A B k : Nat) ∧ wr = w2.drewN n) (fun _ i _ => len0 - (intOf i).toNat)
  case atStart => exact ⟨0, 0, Nat.zero_le _, Nat.zero_le _, rfl, rfl, rfl⟩
  case round =>
    obtain ⟨k, n, hk0, hk1, rfl, rfl, rfl⟩ := hrel
    have hw := Plain.wantTo_le A B k
    by_cases hlt : k < len0 ∧ k < len1
    · obtain ⟨c0, c1⟩ := hlt
      obtain ⟨b, off, ha, hc⟩ : ∃ b off, a0 = some ⟨b, off, none⟩ ∧ ∀ j, j < A.length → w2.cell? ⟨b, off + j, none⟩ = some (.int .u8 (A.getD j 0)) := by
        rcases LA2.out with e | e
        · exfalso
          have := HA.out
          rw [e] at this
          simp at this
          omega
        · exact e
      obtain ⟨b', off', ha', hc'⟩ : ∃ b off, a1 = some ⟨b, off, none⟩ ∧ ∀ j, j < B.length → w2.cell? ⟨b, off + j, none⟩ = some (.int .u8 (B.getD j 0)) := by
        rcases LB2.out with e | e
        · exfalso
          have := HB.out
          rw [e] at this
          simp at this
          omega
        · exact e
      subst ha
      subst ha'
      obtain ⟨x, hx⟩ : ∃ x, x = A.getD k 0 := ⟨_, rfl⟩
      obtain ⟨y, hy⟩ : ∃ y, y = B.getD k 0 := ⟨_, rfl⟩
      have gx : w2.cell? ⟨b, off + k, none⟩ = some (.int .u8 x) := by rw [hx]; exact hc k (by rw [HA.out]; exact c0)
      have gy : w2.cell? ⟨b', off' + k, none⟩ = some (.int .u8 y) := by rw [hy]; exact hc' k (by rw [HB.out]; exact c1)
      have bx := HrA.out k
      have bz := HrB.out k
      rw [← hx] at bx
      rw [← hy] at bz
      have HX : Hid (Plain.mul A k = (x % 4).toNat) := by rw [hx]; rfl
      have HY : Hid (Plain.mul B k = (y % 4).toNat) := by rw [hy]; rfl
      clear hx hy hc hc'
      have i0 : (0 : Int) ≤ (k : Int) := by omega
      have i1 : (k : Int) < (len0 : Int) := by omega
      have i2 : (k : Int) < (len1 : Int) := by omega
      have m0 : 0 ≤ x % 4 := by omega
      have m1 : x % 4 < 4 := by omega
      have m2 : 0 ≤ y % 4 := by omega
      have m3 : y % 4 < 4 := by omega
      by_cases hmin : x % 4 < y % 4
      · go_wp2_with fail
        go_quiet (fail)
        go_wp2_with fail
        go_roundw
        case rel => exact ⟨k + 1, _, by omega, by omega, by go_num, by rw [Plain.wantTo_succ, HX.out, HY.out, Nat.min_eq_left (by omega)]; go_num, rfl⟩
        case measure => simp [intOf]; omega
      · go_wp2_with fail
        go_quiet (fail)
        go_wp2_with fail
        go_roundw
        case rel => exact ⟨k + 1, _, by omega, by omega, by go_num, by rw [Plain.wantTo_succ, HX.out, HY.out, Nat.min_eq_right (by omega)]; go_num, rfl⟩
        case measure => simp [intOf]; omega
    · have hkm : k = min len0 len1 := by omega
      have HK : Hid (Plain.M (Plain.buildTo A len0) (Plain.buildTo B len1) = Plain.wantTo A B k) := by rw [hkm]; exact Plain.M_build A B len0 len1 h0 h1
      clear hkm
      have hcall := common_any (Plain.buildTo A len0) (Plain.buildTo B len1) gA gB nA nB cA cB (w2.drewN n) BA.out.len BB.out.len BA.out.cap.1 BB.out.cap.1 BA.out.cap.2 BB.out.cap.2
        (by have := Plain.buildTo_length A len0; have := BA.out.len; omega) (by have := Plain.buildTo_length B len1; have := BB.out.len; omega)
        (Plain.buildTo_sorted A len0) (Plain.buildTo_sorted B len1) (fun x hx => by have := Plain.buildTo_range A len0 x hx; omega) (fun x hx => by have := Plain.buildTo_range B len1 x hx; omega)
        (fun j hj => by
          have hc := BA.out.cell j hj
          rw [World.cell?_drewN, ← hc]
          exact BB.out.2.1.cell (World.block_lt_of_cell? w1 _ hc))
        (fun j hj => BB.out.cell j hj)
      rw [HK.out] at hcall
      have HCALL : Hid (Calls Yba.prog 15 #[.slice (some ⟨gA, 0, none⟩) nA cA, .slice (some ⟨gB, 0, none⟩) nB cB] (w2.drewN n) fun e w' => e = .returned (.int .i64 (Plain.wantTo A B k : Nat)) ∧ ∃ m, w' = (w2.drewN n).drewN m) := hcall
      clear hcall
      by_cases c0 : k < len0
      · have c1 : len1 ≤ k := by omega
        go_wp2_with fail
        refine Calls.mono HCALL.out ?_
        rintro e w' ⟨rfl, n2, rfl⟩
        go_wp2_with fail
        go_ret
        exact ⟨ret_bool (by simp), HBel.out.trans (below_drewN' _ _ _)⟩
      · go_wp2_with fail
        refine Calls.mono HCALL.out ?_
        rintro e w' ⟨rfl, n2, rfl⟩
        go_wp2_with fail
        go_ret
        exact ⟨ret_bool (by simp), HBel.out.trans (below_drewN' _ _ _)⟩

end Go.Proofs.Ybulkaegq
