/-
  SEAT b1511a: THE CONTRACTS OF 'lineEndsIn' (function 19), an operator each. It only reads, and draws no order: the world stands.
-/
import Derived.Test.YbulkaegqRows
import Derived.Test.YbulkaegqPlainC
import Derived.WalkKit
import Derived.OpenShut
namespace Go.Proofs.Ybulkaegq
open Go.RowKit
set_option linter.unusedVariables false

theorem ret_i64 {a b : Int} (h : a = b) : Ending.returned (.int .i64 a) = .returned (.int .i64 b) := by rw [h]

/-- 'the call at this pointer answers n, and the world stands'. -/
def Ends (w : World) (g : Nat) (n : Int) : Prop :=
  Calls Yba.prog 19 #[.pointer (some ⟨g, 0, none⟩)] w fun e w' => e = .returned (.int .i64 n) ∧ w' = w

theorem line_any (g : Nat) (w : World) (c0 : w.cell? ⟨g, 0, none⟩ = some (.int .u8 6)) : Ends w g 1 := by
  unfold Ends
  go_enter Yba.func19, Yba.ntmps19
  go_wp2_with fail
  go_ret
  exact ⟨rfl, rfl⟩

theorem line_begin (g : Nat) (w : World) (c0 : w.cell? ⟨g, 0, none⟩ = some (.int .u8 7)) : Ends w g 0 := by
  unfold Ends
  go_enter Yba.func19, Yba.ntmps19
  go_wp2_with fail
  go_ret
  exact ⟨rfl, rfl⟩

set_option maxHeartbeats 1000000 in
theorem line_lit (g b : Nat) (w : World) (Z : List Int) (n cap : Nat) (hn : n ≤ maxLen) (c0 : w.cell? ⟨g, 0, none⟩ = some (.int .u8 3)) (c4 : w.cell? ⟨g, 4, none⟩ = some (.slice (some ⟨b, 0, none⟩) n cap))
    (cZ : ∀ j, j < n → w.cell? ⟨b, j, none⟩ = some (.int .i32 (Z.getD j 0))) : Ends w g (Plain.cnt Z n) := by
  unfold Ends
  unfold maxLen at hn
  have HZ : Hid (∀ j, j < n → w.cell? ⟨b, j, none⟩ = some (.int .i32 (Z.getD j 0))) := cZ
  clear cZ
  go_enter Yba.func19, Yba.ntmps19
  go_wp2_with fail
  go_loop [3, 23] (fun t i => ∃ k : Nat, k ≤ n ∧ i = .int .i64 k ∧ t = .int .i64 (Plain.cnt Z k : Nat)) (fun _ i => n - (intOf i).toNat)
  case atStart => exact ⟨0, Nat.zero_le _, rfl, rfl⟩
  case round =>
    obtain ⟨k, hk, rfl, rfl⟩ := hrel
    have hc := Plain.cnt_le Z k
    by_cases hlt : k < n
    · obtain ⟨x, hx⟩ : ∃ x, x = Z.getD k 0 := ⟨_, rfl⟩
      have gx : w.cell? ⟨b, k, none⟩ = some (.int .i32 x) := by rw [hx]; exact HZ.out k hlt
      have HX : Hid (x = Z.getD k 0) := hx
      clear hx
      by_cases e : x = 10
      · have hd : (x == 10) = true := by simp [e]
        have HE : Hid (x = 10) := e
        clear e
        go_wp2_with fail
        go_round
        case rel => exact ⟨k + 1, by omega, by go_num, by rw [Plain.cnt_yes (by rw [← HX.out]; exact HE.out)]; go_num⟩
        case measure => simp [intOf]; omega
      · have hd : (x == 10) = false := by simp [e]
        have HE : Hid (¬ x = 10) := e
        clear e
        go_wp2_with fail
        go_round
        case rel => exact ⟨k + 1, by omega, by go_num, by rw [Plain.cnt_no (by rw [← HX.out]; exact HE.out)]⟩
        case measure => simp [intOf]; omega
    · have hkn : k = n := by omega
      subst hkn
      go_wp2_with fail
      go_ret
      exact ⟨rfl, rfl⟩

set_option maxHeartbeats 1000000 in
theorem line_class (g b : Nat) (w : World) (Z : List Int) (h n cap : Nat) (hh : n = 2 * h) (hn : n ≤ 1024) (c0 : w.cell? ⟨g, 0, none⟩ = some (.int .u8 4)) (c4 : w.cell? ⟨g, 4, none⟩ = some (.slice (some ⟨b, 0, none⟩) n cap))
    (cZ : ∀ j, j < n → w.cell? ⟨b, j, none⟩ = some (.int .i32 (Z.getD j 0))) : Ends w g (Plain.hitN Z h) := by
  unfold Ends
  have HZ : Hid (∀ j, j < n → w.cell? ⟨b, j, none⟩ = some (.int .i32 (Z.getD j 0))) := cZ
  have HH : Hid (n = 2 * h) := hh
  clear cZ hh
  go_enter Yba.func19, Yba.ntmps19
  go_wp2_with fail
  go_loop [6] (fun i => ∃ k : Nat, k ≤ h ∧ i = .int .i64 ((2 * k : Nat) : Int) ∧ Plain.hit Z k = false) (fun i => n - (intOf i).toNat)
  case atStart => exact ⟨0, Nat.zero_le _, rfl, rfl⟩
  case round =>
    obtain ⟨k, hk, rfl, hnone⟩ := hrel
    have HN : Hid (Plain.hit Z k = false) := hnone
    clear hnone
    by_cases hlt : k < h
    · have b0 : (0 : Int) ≤ ((2 * k : Nat) : Int) := by omega
      have b1 : ((2 * k : Nat) : Int) < (n : Int) := by have := HH.out; omega
      have b2 : ((2 * k : Nat) : Int) + 1 < (n : Int) := by have := HH.out; omega
      obtain ⟨x, hx⟩ : ∃ x, x = Z.getD (2 * k) 0 := ⟨_, rfl⟩
      obtain ⟨y, hy⟩ : ∃ y, y = Z.getD (2 * k + 1) 0 := ⟨_, rfl⟩
      have gx : w.cell? ⟨b, 2 * k, none⟩ = some (.int .i32 x) := by rw [hx]; exact HZ.out _ (by have := HH.out; omega)
      have gy : w.cell? ⟨b, 2 * k + 1, none⟩ = some (.int .i32 y) := by rw [hy]; exact HZ.out _ (by have := HH.out; omega)
      have HX : Hid (x = Z.getD (2 * k) 0) := hx
      have HY : Hid (y = Z.getD (2 * k + 1) 0) := hy
      clear hx hy
      by_cases e1 : x ≤ 10
      · by_cases e2 : 10 ≤ y
        · go_wp2_with fail
          go_ret
          have hy : Plain.hit Z (k + 1) = true := Plain.hit_yes (by rw [← HX.out]; exact e1) (by rw [← HY.out]; exact e2)
          have hz := Plain.hit_mono hy (h - (k + 1))
          rw [show k + 1 + (h - (k + 1)) = h from by omega] at hz
          exact ⟨ret_i64 (Plain.hitN_yes hz).symm, rfl⟩
        · go_wp2_with fail
          go_round
          case rel => exact ⟨k + 1, by omega, by go_num, by rw [Plain.hit_no2 (by rw [← HY.out]; omega)]; exact HN.out⟩
          case measure => simp [intOf]; omega
      · go_wp2_with fail
        go_round
        case rel => exact ⟨k + 1, by omega, by go_num, by rw [Plain.hit_no1 (by rw [← HX.out]; omega)]; exact HN.out⟩
        case measure => simp [intOf]; omega
    · have hkh : k = h := by omega
      subst hkh
      have b3 : ¬ ((2 * k : Nat) : Int) < (n : Int) := by have := HH.out; omega
      go_wp2_with fail
      go_ret
      exact ⟨ret_i64 (Plain.hitN_no HN.out).symm, rfl⟩

theorem line_one (g g' s : Nat) (w : World) (op n : Int) (cap : Nat) (hop : op = 13 ∨ op = 16) (c0 : w.cell? ⟨g, 0, none⟩ = some (.int .u8 op)) (c2 : w.cell? ⟨g, 2, none⟩ = some (.slice (some ⟨s, 0, none⟩) 1 cap))
    (cs : w.cell? ⟨s, 0, none⟩ = some (.pointer (some ⟨g', 0, none⟩))) (hE : Ends w g' n) : Ends w g n := by
  unfold Ends
  rcases hop with rfl | rfl
  · go_enter Yba.func19, Yba.ntmps19
    go_wp2_with fail
    refine Calls.mono hE ?_
    rintro e w' ⟨rfl, rfl⟩
    go_wp2_with fail
    go_ret
    exact ⟨rfl, rfl⟩
  · go_enter Yba.func19, Yba.ntmps19
    go_wp2_with fail
    refine Calls.mono hE ?_
    rintro e w' ⟨rfl, rfl⟩
    go_wp2_with fail
    go_ret
    exact ⟨rfl, rfl⟩

theorem line_star (g g' s : Nat) (w : World) (op : Int) (n : Nat) (cap : Nat) (hop : op = 14 ∨ op = 15) (c0 : w.cell? ⟨g, 0, none⟩ = some (.int .u8 op)) (c2 : w.cell? ⟨g, 2, none⟩ = some (.slice (some ⟨s, 0, none⟩) 1 cap))
    (cs : w.cell? ⟨s, 0, none⟩ = some (.pointer (some ⟨g', 0, none⟩))) (hE : Ends w g' n) :
    (n = 0 → Ends w g 0) ∧ (0 < n → Ends w g (-1)) := by
  refine ⟨fun h0 => ?_, fun h0 => ?_⟩
  · subst h0
    unfold Ends
    rcases hop with rfl | rfl
    all_goals
      go_enter Yba.func19, Yba.ntmps19
      go_wp2_with fail
      refine Calls.mono hE ?_
      rintro e w' ⟨rfl, rfl⟩
      go_wp2_with fail
      go_ret
      exact ⟨rfl, rfl⟩
  · unfold Ends
    have d0 : ((n : Int) == 0) = false := by simp; omega
    have d1 : ((n : Int) == -1) = false := by simp
    rcases hop with rfl | rfl
    all_goals
      go_enter Yba.func19, Yba.ntmps19
      go_wp2_with fail
      refine Calls.mono hE ?_
      rintro e w' ⟨rfl, rfl⟩
      go_wp2_with fail
      go_ret
      exact ⟨rfl, rfl⟩

theorem line_rep (g g' s : Nat) (w : World) (n : Nat) (mx : Int) (cap : Nat) (hn : n ≤ 1024) (hm : mx ≤ 127) (hm' : -128 ≤ mx) (c0 : w.cell? ⟨g, 0, none⟩ = some (.int .u8 17)) (c2 : w.cell? ⟨g, 2, none⟩ = some (.slice (some ⟨s, 0, none⟩) 1 cap))
    (c8 : w.cell? ⟨g, 8, none⟩ = some (.int .i64 mx)) (cs : w.cell? ⟨s, 0, none⟩ = some (.pointer (some ⟨g', 0, none⟩))) (hE : Ends w g' n) :
    (n = 0 → Ends w g 0) ∧ (0 < n → mx < 0 → Ends w g (-1)) ∧ (0 < n → 0 ≤ mx → Ends w g ((n : Int) * mx)) := by
  refine ⟨fun h0 => ?_, fun h0 h1 => ?_, fun h0 h1 => ?_⟩
  · subst h0
    unfold Ends
    go_enter Yba.func19, Yba.ntmps19
    go_wp2_with fail
    refine Calls.mono hE ?_
    rintro e w' ⟨rfl, rfl⟩
    go_wp2_with fail
    go_ret
    exact ⟨rfl, rfl⟩
  · unfold Ends
    have d0 : ((n : Int) == 0) = false := by simp; omega
    have d1 : ((n : Int) == -1) = false := by simp
    go_enter Yba.func19, Yba.ntmps19
    go_wp2_with fail
    refine Calls.mono hE ?_
    rintro e w' ⟨rfl, rfl⟩
    go_wp2_with fail
    go_ret
    exact ⟨rfl, rfl⟩
  · unfold Ends
    have d0 : ((n : Int) == 0) = false := by simp; omega
    have d1 : ((n : Int) == -1) = false := by simp
    have p0 : 0 ≤ (n : Int) * mx := Int.mul_nonneg (by omega) h1
    have p1 : (n : Int) * mx ≤ 130048 := by
      have a1 : (n : Int) * mx ≤ (n : Int) * 127 := Int.mul_le_mul_of_nonneg_left hm (by omega)
      omega
    go_enter Yba.func19, Yba.ntmps19
    go_wp2_with fail
    refine Calls.mono hE ?_
    rintro e w' ⟨rfl, rfl⟩
    go_wp2_with fail
    go_ret
    exact ⟨rfl, rfl⟩

set_option maxHeartbeats 1000000 in
theorem line_cat (g s : Nat) (w : World) (m cap : Nat) (G N : Nat → Nat) (hm : m ≤ 256) (c0 : w.cell? ⟨g, 0, none⟩ = some (.int .u8 18)) (c2 : w.cell? ⟨g, 2, none⟩ = some (.slice (some ⟨s, 0, none⟩) m cap))
    (cs : ∀ j, j < m → w.cell? ⟨s, j, none⟩ = some (.pointer (some ⟨G j, 0, none⟩))) (hN : ∀ j, j < m → N j ≤ 256) (hE : ∀ j, j < m → Ends w (G j) (N j)) : Ends w g (Plain.sumTo N m) := by
  unfold Ends
  have HC : Hid (∀ j, j < m → w.cell? ⟨s, j, none⟩ = some (.pointer (some ⟨G j, 0, none⟩))) := cs
  have HN : Hid (∀ j, j < m → N j ≤ 256) := hN
  have HE : Hid (∀ j, j < m → Ends w (G j) (N j)) := hE
  clear cs hN hE
  go_enter Yba.func19, Yba.ntmps19
  go_wp2_with fail
  go_loop [8, 120] (fun t i => ∃ k : Nat, k ≤ m ∧ i = .int .i64 k ∧ t = .int .i64 (Plain.sumTo N k : Nat)) (fun _ i => m - (intOf i).toNat)
  case atStart => exact ⟨0, Nat.zero_le _, rfl, rfl⟩
  case round =>
    obtain ⟨k, hk, rfl, rfl⟩ := hrel
    have hs := Plain.sumTo_le N 256 k (fun j hj => HN.out j (by omega))
    have hs' : Plain.sumTo N k ≤ 65536 := by omega
    clear hs
    by_cases hlt : k < m
    · have gc := HC.out k hlt
      have gn := HN.out k hlt
      have ge := HE.out k hlt
      have GE : Hid (Ends w (G k) (N k)) := ge
      clear ge
      have d1 : ((N k : Int) == -1) = false := by simp
      go_wp2_with fail
      refine Calls.mono GE.out ?_
      rintro e w' ⟨rfl, rfl⟩
      go_wp2_with fail
      go_round
      case rel => exact ⟨k + 1, by omega, by go_num, by rw [Plain.sumTo]; go_num⟩
      case measure => simp [intOf]; omega
    · have hkm : k = m := by omega
      subst hkm
      go_wp2_with fail
      go_ret
      exact ⟨rfl, rfl⟩

set_option maxHeartbeats 1000000 in
theorem line_alt (g s : Nat) (w : World) (m cap : Nat) (G N : Nat → Nat) (hm : m ≤ 256) (c0 : w.cell? ⟨g, 0, none⟩ = some (.int .u8 19)) (c2 : w.cell? ⟨g, 2, none⟩ = some (.slice (some ⟨s, 0, none⟩) m cap))
    (cs : ∀ j, j < m → w.cell? ⟨s, j, none⟩ = some (.pointer (some ⟨G j, 0, none⟩))) (hN : ∀ j, j < m → N j ≤ 256) (hE : ∀ j, j < m → Ends w (G j) (N j)) : Ends w g (Plain.mostTo N m) := by
  unfold Ends
  have HC : Hid (∀ j, j < m → w.cell? ⟨s, j, none⟩ = some (.pointer (some ⟨G j, 0, none⟩))) := cs
  have HN : Hid (∀ j, j < m → N j ≤ 256) := hN
  have HE : Hid (∀ j, j < m → Ends w (G j) (N j)) := hE
  clear cs hN hE
  go_enter Yba.func19, Yba.ntmps19
  go_wp2_with fail
  go_loop [8, 120] (fun t i => ∃ k : Nat, k ≤ m ∧ i = .int .i64 k ∧ t = .int .i64 (Plain.mostTo N k : Nat)) (fun _ i => m - (intOf i).toNat)
  case atStart => exact ⟨0, Nat.zero_le _, rfl, rfl⟩
  case round =>
    obtain ⟨k, hk, rfl, rfl⟩ := hrel
    have hs := Plain.mostTo_le N 256 k (fun j hj => HN.out j (by omega))
    by_cases hlt : k < m
    · have gc := HC.out k hlt
      have gn := HN.out k hlt
      have ge := HE.out k hlt
      have GE : Hid (Ends w (G k) (N k)) := ge
      clear ge
      have d1 : ((N k : Int) == -1) = false := by simp
      by_cases hmax : Plain.mostTo N k < N k
      · have hi : (Plain.mostTo N k : Int) < (N k : Int) := by omega
        go_wp2_with fail
        refine Calls.mono GE.out ?_
        rintro e w' ⟨rfl, rfl⟩
        go_wp2_with fail
        go_round
        case rel => exact ⟨k + 1, by omega, by go_num, by rw [Plain.mostTo_yes hmax]⟩
        case measure => simp [intOf]; omega
      · have hi : ¬ (Plain.mostTo N k : Int) < (N k : Int) := by omega
        go_wp2_with fail
        refine Calls.mono GE.out ?_
        rintro e w' ⟨rfl, rfl⟩
        go_wp2_with fail
        all_goals
          go_round
          case rel => exact ⟨k + 1, by omega, by go_num, by rw [Plain.mostTo_no hmax]; try go_num⟩
          case measure => simp [intOf]; omega
    · have hkm : k = m := by omega
      subst hkm
      go_wp2_with fail
      go_ret
      exact ⟨rfl, rfl⟩

end Go.Proofs.Ybulkaegq
