/-
  SEAT b1511a: THE WALK OF LawS1511CClass (function 10).
-/
import Derived.Test.YbulkaegqFill
namespace Go.Proofs.Ybulkaegq
open Go.RowKit
set_option linter.unusedVariables false

set_option maxHeartbeats 2000000 in
theorem class_walk (l : List Int) (a0 : Option Addr) (len0 cap0 : Nat) (a1 : Int) (w : World) (hl : l.length = len0) (L : Lies w a0 l) (hr : ∀ j, 0 ≤ l.getD j 0 ∧ l.getD j 0 ≤ 255) (h1 : 0 ≤ a1 ∧ a1 ≤ 255) (hlen : len0 ≤ 1024) :
    Calls Yba.prog 10 #[.slice a0 len0 cap0, .int .u8 a1] w fun e w' => e = .returned (.bool true) ∧ Below w.heap.size w w' := by
  obtain ⟨i0, hi, hz0, hz1, hz2⟩ := info_parts Yba.info21
  obtain ⟨h, n, hn2, hn⟩ : ∃ h n : Nat, n = 2 * h ∧ (n : Int) = (len0 : Int) - (len0 : Int) % 2 := ⟨len0 / 2, 2 * (len0 / 2), rfl, by omega⟩
  have hnl : n ≤ len0 := by omega
  have HL : Hid (l.length = len0) := hl
  have HR : Hid (∀ j, 0 ≤ l.getD j 0 ∧ l.getD j 0 ≤ 255) := hr
  have HN2 : Hid (n = 2 * h) := hn2
  have HLies : Hid (Lies w a0 l) := L
  clear hl hr hn2 L
  have hn' : (len0 : Int) - (len0 : Int) % 2 = (n : Int) := hn.symm
  clear hn
  go_enter Yba.func10, Yba.ntmps10
  go_wp2_with (at_make; refine wpList_make_full _ rfl _ _ 41 rfl w.heap.size 21 i0 (.int .i32 0) 1 Yba.underlying41 hi hz0 hz1 .i64 .i64 _ _ n rfl rfl (by omega) (by omega) (by rw [hz2]; omega) (by unfold maxLen; omega) (Nat.le_refl _) ?_)
  intro w1 hown hgrow
  rw [made_is] at hown
  have hrow : Row w1 w.heap.size (Plain.fillTo 24 l n 0) := by rw [Plain.fillTo_zero]; exact row_of_owns hown
  have hbel : Below w.heap.size w w1 := (Below.refl _ _).grown hgrow (Nat.le_refl _) (by intro k hk; cases hk)
  have HROW : Hid (Row w1 w.heap.size (Plain.fillTo 24 l n 0)) := hrow
  have HB : Hid (Below w.heap.size w w1) := hbel
  clear hown hgrow hrow hbel
  go_wp2_with fail
  go_loopw [7] (fun i wr => ∃ k : Nat, k ≤ n ∧ i = .int .i64 k ∧ Hid (Row wr w.heap.size (Plain.fillTo 24 l n k)) ∧ Hid (Below w.heap.size w wr)) (fun i _ => n - (intOf i).toNat)
  case atStart => exact ⟨0, Nat.zero_le _, rfl, HROW, HB⟩
  case round =>
    obtain ⟨k, hk, rfl, hrow, hbel⟩ := hrel
    by_cases hlt : k < n
    · obtain ⟨b, off, ha, hc⟩ : ∃ b off, a0 = some ⟨b, off, none⟩ ∧ ∀ j, j < l.length → w.cell? ⟨b, off + j, none⟩ = some (.int .u8 (l.getD j 0)) := by
        rcases HLies.out with e | e
        · exfalso
          have := HL.out
          rw [e] at this
          simp at this
          omega
        · exact e
      subst ha
      obtain ⟨x, hx⟩ : ∃ x, x = l.getD k 0 := ⟨_, rfl⟩
      have hbx := HR.out k
      rw [← hx] at hbx
      have gx : wr.cell? ⟨b, off + k, none⟩ = some (.int .u8 x) := by
        rw [hx, ← hc k (by have := HL.out; omega)]
        exact hbel.out.cell (World.block_lt_of_cell? w _ (hc k (by have := HL.out; omega)))
      have HX : Hid (x = l.getD k 0) := hx
      clear hx hc
      have i0 : (0 : Int) ≤ (k : Int) := by omega
      have i1 : (k : Int) < (n : Int) := by omega
      have i2 : (k : Int) < (len0 : Int) := by omega
      have m0 : 0 ≤ x % 24 := by omega
      have m1 : x % 24 < 24 := by omega
      have gz := hrow.out.cell k (by rw [Plain.fillTo_length]; exact hlt)
      have fz := hrow.out.frozen k
      go_wp2_with fail
      go_roundw
      case rel => exact ⟨k + 1, by omega, by go_num, by rw [HX.out, ← Plain.fillTo_set]; exact hrow.out.set k _, hbel.out.setCell (Nat.le_refl _) _⟩
      case measure => simp [intOf]; omega
    · have hkn : k = n := by omega
      subst hkn
      clear HROW HB hi hz0 hz1 hz2 HLies
      have hZ := hrow
      clear hrow
      obtain ⟨Z, hZe⟩ : ∃ Z, Z = Plain.fillTo 24 l k k := ⟨_, rfl⟩
      have hZl : Hid (Z.length = k) := by rw [hZe]; exact Plain.fillTo_length _ _ _ _
      rw [← hZe] at hZ
      clear hZe
      by_cases s0 : a1 % 3 = 0
      · have t0 : (a1 % 3 == 0) = true := by simp [s0]
        have T0 : Hid (a1 % 3 = 0) := s0
        clear s0
        have hk2 := HN2.out
        have HK : Hid (k = 2 * h) := hk2
        clear hk2 HN2
        go_wp2_with fail
        go_loop [8, 9] (fun t i => ∃ j : Nat, j ≤ h ∧ i = .int .i64 ((2 * j : Nat) : Int) ∧ t = .int .i64 (Plain.hitN Z j)) (fun _ i => k - (intOf i).toNat)
        case atStart => exact ⟨0, Nat.zero_le _, rfl, rfl⟩
        case round =>
          obtain ⟨j, hj, rfl, rfl⟩ := hrel
          by_cases hlt2 : j < h
          · have b0 : (0 : Int) ≤ ((2 * j : Nat) : Int) := by omega
            have b1 : ((2 * j : Nat) : Int) < (k : Int) := by have := HK.out; omega
            have b2 : ((2 * j : Nat) : Int) + 1 < (k : Int) := by have := HK.out; omega
            obtain ⟨x, hx⟩ : ∃ x, x = Z.getD (2 * j) 0 := ⟨_, rfl⟩
            obtain ⟨y, hy⟩ : ∃ y, y = Z.getD (2 * j + 1) 0 := ⟨_, rfl⟩
            have gx : wr.cell? ⟨w.heap.size, 2 * j, none⟩ = some (.int .i32 x) := by rw [hx]; exact hZ.out.cell _ (by have := HK.out; have := hZl.out; omega)
            have gy : wr.cell? ⟨w.heap.size, 2 * j + 1, none⟩ = some (.int .i32 y) := by rw [hy]; exact hZ.out.cell _ (by have := HK.out; have := hZl.out; omega)
            have HX : Hid (x = Z.getD (2 * j) 0) := hx
            have HY : Hid (y = Z.getD (2 * j + 1) 0) := hy
            clear hx hy
            by_cases e1 : x ≤ 10
            · by_cases e2 : 10 ≤ y
              · go_wp2_with fail
                go_round
                case rel => exact ⟨j + 1, by omega, by go_num, by rw [Plain.hitN_yes (Plain.hit_yes (by rw [← HX.out]; exact e1) (by rw [← HY.out]; exact e2))]⟩
                case measure => simp [intOf]; omega
              · go_wp2_with fail
                go_round
                case rel => exact ⟨j + 1, by omega, by go_num, by unfold Plain.hitN; rw [Plain.hit_no2 (by rw [← HY.out]; omega)]⟩
                case measure => simp [intOf]; omega
            · go_wp2_with fail
              go_round
              case rel => exact ⟨j + 1, by omega, by go_num, by unfold Plain.hitN; rw [Plain.hit_no1 (by rw [← HX.out]; omega)]⟩
              case measure => simp [intOf]; omega
          · have hjh : j = h := by omega
            subst hjh
            have b3 : ¬ ((2 * j : Nat) : Int) + 1 < (k : Int) := by have := HK.out; omega
            have b4 : ((2 * j : Nat) : Int) ≤ 1024 := by have := HK.out; omega
            go_wp2_with fail
            refine (Ends.calls (line_class _ w.heap.size _ Z j k k HK.out (by omega) ?h0 ?h4 ?hc)).mono ?_
            case h0 => simp
            case h4 => simp
            case hc =>
              intro i hi
              rw [← hZ.out.cell i (by have := hZl.out; omega)]
              exact World.cell?_of_block (Below.heap_alloc _ _ _ hZ.out.lt)
            rintro e w' ⟨rfl, rfl⟩
            go_wp2_with fail
            go_ret
            exact ⟨by simp, hbel.out.alloc (by have := hZ.out.lt; omega) _⟩
      · by_cases s1 : a1 % 3 = 1
        · have t0 : (a1 % 3 == 0) = false := by simp [s0]
          have t1 : (a1 % 3 == 1) = true := by simp [s1]
          clear s0 s1
          go_wp2_with fail
          refine (Ends.calls (line_any _ _ (by simp))).mono ?_
          rintro e w' ⟨rfl, rfl⟩
          go_wp2_with fail
          go_ret
          exact ⟨rfl, hbel.out.alloc (by have := hZ.out.lt; omega) _⟩
        · have t0 : (a1 % 3 == 0) = false := by simp [s0]
          have t1 : (a1 % 3 == 1) = false := by simp [s1]
          clear s0 s1
          go_wp2_with fail
          refine (Ends.calls (line_begin _ _ (by simp))).mono ?_
          rintro e w' ⟨rfl, rfl⟩
          go_wp2_with fail
          go_ret
          exact ⟨rfl, hbel.out.alloc (by have := hZ.out.lt; omega) _⟩

end Go.Proofs.Ybulkaegq
