/-
  SEAT b1511a: THE WALK OF LawS1511CRepeat (function 9).
-/
import Derived.Test.YbulkaegqLit
namespace Go.Proofs.Ybulkaegq
open Go.RowKit
set_option linter.unusedVariables false

theorem LitAt.below {lo g n : Nat} {w w' : World} {Z : List Int} (h : LitAt lo w g n Z) (hb : Below w.heap.size w w') : LitAt lo w' g n Z :=
  h.same fun b o v _ hc => by rw [← hc]; exact hb.cell (World.block_lt_of_cell? w _ hc)

theorem below2 (w : World) (o p : Obj) : Below w.heap.size w ((w.alloc o).alloc p) := ((Below.refl _ _).alloc (Nat.le_refl _) _).alloc (by simp) _

/-- One more node over a node at block g: the slice of one pointer in a block, the node in the next. -/
abbrev over (w : World) (g : Nat) (op mn mx : Int) : World :=
  (w.alloc (.cells #[.pointer (some ⟨g, 0, none⟩)] 34)).alloc (.cells #[.int .u8 op, .int .u16 0, .slice (some ⟨w.heap.size, 0, none⟩) 1 1, .pointer none, .slice none 0 0, .int .i32 0, .int .i32 0, .int .i64 mn, .int .i64 mx, .int .i64 0, .string ⟨#[]⟩] 44)

theorem over_op (w : World) (g : Nat) (op mn mx : Int) : (over w g op mn mx).cell? ⟨w.heap.size + 1, 0, none⟩ = some (.int .u8 op) := by simp [over]
theorem over_sub (w : World) (g : Nat) (op mn mx : Int) : (over w g op mn mx).cell? ⟨w.heap.size + 1, 2, none⟩ = some (.slice (some ⟨w.heap.size, 0, none⟩) 1 1) := by simp [over]
theorem over_max (w : World) (g : Nat) (op mn mx : Int) : (over w g op mn mx).cell? ⟨w.heap.size + 1, 8, none⟩ = some (.int .i64 mx) := by simp [over]
theorem over_ptr (w : World) (g : Nat) (op mn mx : Int) : (over w g op mn mx).cell? ⟨w.heap.size, 0, none⟩ = some (.pointer (some ⟨g, 0, none⟩)) := by simp [over]

set_option maxHeartbeats 2000000 in
theorem repeat_walk (l : List Int) (a0 : Option Addr) (n cap0 : Nat) (a1 a2 : Int) (w : World) (hl : l.length = n) (L : Lies w a0 l) (hr : ∀ j, 0 ≤ l.getD j 0 ∧ l.getD j 0 ≤ 255) (hn : n ≤ 1024) (h1 : 0 ≤ a1 ∧ a1 ≤ 255) (h2 : -128 ≤ a2 ∧ a2 ≤ 127) :
    Calls Yba.prog 9 #[.slice a0 n cap0, .int .u8 a1, .int .i8 a2] w fun e w' => e = .returned (.bool true) ∧ Below w.heap.size w w' := by
  have HL : Hid (l.length = n) := hl
  have HR : Hid (∀ j, 0 ≤ l.getD j 0 ∧ l.getD j 0 ≤ 255) := hr
  have HLies : Hid (Lies w a0 l) := L
  clear hl hr L
  obtain ⟨c, hc⟩ : ∃ c, c = Plain.cnt (Plain.fillTo 16 l n n) n := ⟨_, rfl⟩
  have hcn : c ≤ 1024 := by have := Plain.cnt_le (Plain.fillTo 16 l n n) n; omega
  have HC : Hid (c = Plain.cnt (Plain.fillTo 16 l n n) n) := hc
  clear hc
  go_enter Yba.func9, Yba.ntmps9
  go_wp2_with fail
  refine (lit_any l a0 n cap0 w HL.out HLies.out HR.out hn).mono ?_
  rintro e w1 ⟨g, rfl, hbel, hlit⟩
  have HB : Hid (Below w.heap.size w w1) := hbel
  have HLit : Hid (LitAt w.heap.size w1 g n (Plain.fillTo 16 l n n)) := hlit
  have HLies1 : Hid (Lies w1 a0 l) := by
    rcases HLies.out with rfl | ⟨b, off, rfl, hc⟩
    · exact Or.inl rfl
    · refine Or.inr ⟨b, off, rfl, fun j hj => ?_⟩
      rw [← hc j hj]
      exact hbel.cell (World.block_lt_of_cell? w _ (hc j hj))
  clear hbel hlit
  go_wp2_with fail
  refine (count_any l a0 n cap0 w1 HL.out HLies1.out HR.out hn).mono ?_
  rintro e w' ⟨rfl, rfl⟩
  rw [← HC.out]
  have hB2 : ∀ op mn mx, Below w.heap.size w (over w' g op mn mx) := fun op mn mx => HB.out.trans ((below2 w' _ _).mono HB.out.size)
  have HB2 : Hid (∀ op mn mx, Below w.heap.size w (over w' g op mn mx)) := hB2
  have HE : Hid (∀ op mn mx, Ends (over w' g op mn mx) g (c : Nat)) := fun op mn mx => by
    rw [HC.out]
    exact (HLit.out.below (below2 w' _ _)).ends hn
  clear hB2 HLit HLies HLies1 HB HC
  have v1 : (0 : Int) ≤ a1 % 3 := by omega
  have v2 : a1 % 3 < 3 := by omega
  by_cases hc0 : c = 0
  · subst hc0
    by_cases s0 : a1 % 3 = 0
    · have t0 : (a1 % 3 == 0) = true := by simp [s0]
      clear s0
      go_wp2_with fail
      refine (Ends.calls ((line_star _ g w'.heap.size _ 14 0 1 (Or.inl rfl) (over_op w' g 14 0 0) (over_sub w' g 14 0 0) (over_ptr w' g 14 0 0) (HE.out 14 0 0)).1 rfl)).mono ?_
      rintro e w'' ⟨rfl, rfl⟩
      go_wp2_with fail
      go_ret
      exact ⟨rfl, HB2.out 14 0 0⟩
    · have t0 : (a1 % 3 == 0) = false := by simp [s0]
      by_cases s1 : a1 % 3 = 1
      · have t1 : (a1 % 3 == 1) = true := by simp [s1]
        clear s0 s1
        go_wp2_with fail
        refine (Ends.calls ((line_star _ g w'.heap.size _ 15 0 1 (Or.inr rfl) (over_op w' g 15 0 0) (over_sub w' g 15 0 0) (over_ptr w' g 15 0 0) (HE.out 15 0 0)).1 rfl)).mono ?_
        rintro e w'' ⟨rfl, rfl⟩
        go_wp2_with fail
        go_ret
        exact ⟨rfl, HB2.out 15 0 0⟩
      · have t1 : (a1 % 3 == 1) = false := by simp [s1]
        clear s0 s1
        go_wp2_with fail
        refine (Ends.calls ((line_rep _ g w'.heap.size _ 0 a2 1 (by omega) (by omega) (by omega) (over_op w' g 17 0 a2) (over_sub w' g 17 0 a2) (over_max w' g 17 0 a2) (over_ptr w' g 17 0 a2) (HE.out 17 0 a2)).1 rfl)).mono ?_
        rintro e w'' ⟨rfl, rfl⟩
        go_wp2_with fail
        go_ret
        exact ⟨rfl, HB2.out 17 0 a2⟩
  · have i0 : (0 : Int) < (c : Int) := by omega
    have i1 : 0 < c := by omega
    by_cases s0 : a1 % 3 = 0
    · have t0 : (a1 % 3 == 0) = true := by simp [s0]
      clear s0
      go_wp2_with fail
      refine (Ends.calls ((line_star _ g w'.heap.size _ 14 c 1 (Or.inl rfl) (over_op w' g 14 0 0) (over_sub w' g 14 0 0) (over_ptr w' g 14 0 0) (HE.out 14 0 0)).2 i1)).mono ?_
      rintro e w'' ⟨rfl, rfl⟩
      go_wp2_with fail
      go_ret
      exact ⟨rfl, HB2.out 14 0 0⟩
    · have t0 : (a1 % 3 == 0) = false := by simp [s0]
      by_cases s1 : a1 % 3 = 1
      · have t1 : (a1 % 3 == 1) = true := by simp [s1]
        clear s0 s1
        go_wp2_with fail
        refine (Ends.calls ((line_star _ g w'.heap.size _ 15 c 1 (Or.inr rfl) (over_op w' g 15 0 0) (over_sub w' g 15 0 0) (over_ptr w' g 15 0 0) (HE.out 15 0 0)).2 i1)).mono ?_
        rintro e w'' ⟨rfl, rfl⟩
        go_wp2_with fail
        go_ret
        exact ⟨rfl, HB2.out 15 0 0⟩
      · have t1 : (a1 % 3 == 1) = false := by simp [s1]
        clear s0 s1
        by_cases hm : a2 < 0
        · go_wp2_with fail
          refine (Ends.calls ((line_rep _ g w'.heap.size _ c a2 1 (by omega) (by omega) (by omega) (over_op w' g 17 0 a2) (over_sub w' g 17 0 a2) (over_max w' g 17 0 a2) (over_ptr w' g 17 0 a2) (HE.out 17 0 a2)).2.1 i1 hm)).mono ?_
          rintro e w'' ⟨rfl, rfl⟩
          go_wp2_with fail
          go_ret
          exact ⟨rfl, HB2.out 17 0 a2⟩
        · have p0 : 0 ≤ (c : Int) * a2 := Int.mul_nonneg (by omega) (by omega)
          have p1 : (c : Int) * a2 ≤ 130048 := by
            have q1 : (c : Int) * a2 ≤ (c : Int) * 127 := Int.mul_le_mul_of_nonneg_left h2.2 (by omega)
            omega
          go_wp2_with fail
          refine (Ends.calls ((line_rep _ g w'.heap.size _ c a2 1 (by omega) (by omega) (by omega) (over_op w' g 17 0 a2) (over_sub w' g 17 0 a2) (over_max w' g 17 0 a2) (over_ptr w' g 17 0 a2) (HE.out 17 0 a2)).2.2 i1 (by omega))).mono ?_
          rintro e w'' ⟨rfl, rfl⟩
          go_wp2_with fail
          go_ret
          exact ⟨by simp, HB2.out 17 0 a2⟩

end Go.Proofs.Ybulkaegq
