/-
  SEAT b1511a: THE CONTRACTS OF 'zzs1511clit' (function 17) AND 'zzs1511ccount' (function 18).
-/
import Derived.Test.YbulkaegqFill
namespace Go.Proofs.Ybulkaegq
open Go.RowKit
set_option linter.unusedVariables false

/-- At block g lies a literal whose runes are the n numbers Z; it and its runes lie from block lo on. -/
def LitAt (lo : Nat) (w : World) (g n : Nat) (Z : List Int) : Prop :=
  lo ≤ g ∧ w.cell? ⟨g, 0, none⟩ = some (.int .u8 3) ∧ ∃ B, lo ≤ B ∧ w.cell? ⟨g, 4, none⟩ = some (.slice (some ⟨B, 0, none⟩) n n) ∧ ∀ j, j < n → w.cell? ⟨B, j, none⟩ = some (.int .i32 (Z.getD j 0))

theorem LitAt.ends {lo g n : Nat} {w : World} {Z : List Int} (h : LitAt lo w g n Z) (hn : n ≤ 1024) : Ends w g (Plain.cnt Z n) := by
  obtain ⟨_, h0, B, _, h4, hc⟩ := h
  exact line_lit g B w Z n n (by unfold maxLen; omega) h0 h4 hc

/-- What holds of cells holds where the cells from lo on are as they were. -/
theorem LitAt.same {lo g n : Nat} {w w' : World} {Z : List Int} (h : LitAt lo w g n Z) (hs : ∀ b o v, lo ≤ b → w.cell? ⟨b, o, none⟩ = some v → w'.cell? ⟨b, o, none⟩ = some v) : LitAt lo w' g n Z := by
  obtain ⟨hg, h0, B, hB, h4, hc⟩ := h
  exact ⟨hg, hs _ _ _ hg h0, B, hB, hs _ _ _ hg h4, fun j hj => hs _ _ _ hB (hc j hj)⟩

theorem LitAt.mono {lo lo' g n : Nat} {w : World} {Z : List Int} (h : LitAt lo w g n Z) (hl : lo' ≤ lo) : LitAt lo' w g n Z := by
  obtain ⟨hg, h0, B, hB, h4, hc⟩ := h
  exact ⟨by omega, h0, B, by omega, h4, hc⟩

set_option maxHeartbeats 2000000 in
theorem lit_any (l : List Int) (a0 : Option Addr) (n cap0 : Nat) (w : World) (hl : l.length = n) (L : Lies w a0 l) (hr : ∀ j, 0 ≤ l.getD j 0 ∧ l.getD j 0 ≤ 255) (hn : n ≤ 1024) :
    Calls Yba.prog 17 #[.slice a0 n cap0] w fun e w' => ∃ g, e = .returned (.pointer (some ⟨g, 0, none⟩)) ∧ Below w.heap.size w w' ∧ LitAt w.heap.size w' g n (Plain.fillTo 16 l n n) := by
  obtain ⟨ti, hi, hz0, hz1, hz2⟩ := info_parts Yba.info21
  have HL : Hid (l.length = n) := hl
  have HR : Hid (∀ j, 0 ≤ l.getD j 0 ∧ l.getD j 0 ≤ 255) := hr
  have HLies : Hid (Lies w a0 l) := L
  clear hl hr L
  go_enter Yba.func17, Yba.ntmps17
  go_wp2_with (at_make; refine wpList_make_full _ rfl _ _ 41 rfl w.heap.size 21 ti (.int .i32 0) 1 Yba.underlying41 hi hz0 hz1 .i64 .i64 _ _ n rfl rfl (by omega) (by omega) (by rw [hz2]; omega) (by unfold maxLen; omega) (Nat.le_refl _) ?_)
  intro w1 hown hgrow
  rw [made_is] at hown
  have hrow : Row w1 w.heap.size (Plain.fillTo 16 l n 0) := by rw [Plain.fillTo_zero]; exact row_of_owns hown
  have hbel : Below w.heap.size w w1 := (Below.refl _ _).grown hgrow (Nat.le_refl _) (by intro k hk; cases hk)
  have HROW : Hid (Row w1 w.heap.size (Plain.fillTo 16 l n 0)) := hrow
  have HB : Hid (Below w.heap.size w w1) := hbel
  clear hown hgrow hrow hbel
  go_wp2_with fail
  go_loopw [4] (fun i wr => ∃ k : Nat, k ≤ n ∧ i = .int .i64 k ∧ Hid (Row wr w.heap.size (Plain.fillTo 16 l n k)) ∧ Hid (Below w.heap.size w wr)) (fun i _ => n - (intOf i).toNat)
  case atStart => exact ⟨0, Nat.zero_le _, rfl, HROW, HB⟩
  case round =>
    obtain ⟨k, hk, rfl, hrow, hbel⟩ := hrel
    by_cases hlt : k < n
    · obtain ⟨b, off, ha, hc⟩ : ∃ b off, a0 = some ⟨b, off, none⟩ ∧ ∀ j, j < l.length → w.cell? ⟨b, off + j, none⟩ = some (.int .u8 (l.getD j 0)) := by
        rcases HLies.out with e | e
        · exfalso
          have := HL.out
          rw [e] at this
          simp at this
          omega
        · exact e
      subst ha
      obtain ⟨x, hx⟩ : ∃ x, x = l.getD k 0 := ⟨_, rfl⟩
      have hbx := HR.out k
      rw [← hx] at hbx
      have gx : wr.cell? ⟨b, off + k, none⟩ = some (.int .u8 x) := by
        rw [hx, ← hc k (by have := HL.out; omega)]
        exact hbel.out.cell (World.block_lt_of_cell? w _ (hc k (by have := HL.out; omega)))
      have HX : Hid (x = l.getD k 0) := hx
      clear hx hc
      have i0 : (0 : Int) ≤ (k : Int) := by omega
      have i1 : (k : Int) < (n : Int) := by omega
      have m0 : 0 ≤ x % 16 := by omega
      have m1 : x % 16 < 16 := by omega
      have gz := hrow.out.cell k (by rw [Plain.fillTo_length]; exact hlt)
      have fz := hrow.out.frozen k
      go_wp2_with fail
      go_roundw
      case rel => exact ⟨k + 1, by omega, by go_num, by rw [HX.out, ← Plain.fillTo_set]; exact hrow.out.set k _, hbel.out.setCell (Nat.le_refl _) _⟩
      case measure => simp [intOf]; omega
    · have hkn : k = n := by omega
      subst hkn
      clear HROW HB hi hz0 hz1 hz2 HLies
      go_wp2_with fail
      go_ret
      refine ⟨_, rfl, hbel.out.alloc (by have := hrow.out.lt; omega) _, by have := hrow.out.lt; omega, by simp, w.heap.size, Nat.le_refl _, by simp, fun j hj => ?_⟩
      rw [← hrow.out.cell j (by rw [Plain.fillTo_length]; exact hj)]
      exact World.cell?_of_block (Below.heap_alloc _ _ _ hrow.out.lt)

set_option maxHeartbeats 2000000 in
theorem count_any (l : List Int) (a0 : Option Addr) (n cap0 : Nat) (w : World) (hl : l.length = n) (L : Lies w a0 l) (hr : ∀ j, 0 ≤ l.getD j 0 ∧ l.getD j 0 ≤ 255) (hn : n ≤ 1024) :
    Calls Yba.prog 18 #[.slice a0 n cap0] w fun e w' => e = .returned (.int .i64 (Plain.cnt (Plain.fillTo 16 l n n) n : Nat)) ∧ w' = w := by
  have HL : Hid (l.length = n) := hl
  have HR : Hid (∀ j, 0 ≤ l.getD j 0 ∧ l.getD j 0 ≤ 255) := hr
  have HLies : Hid (Lies w a0 l) := L
  clear hl hr L
  have HZ : Hid (∀ j, j < n → (Plain.fillTo 16 l n n).getD j 0 = l.getD j 0 % 16) := fun j hj => by rw [Plain.fillTo_get _ _ _ _ _ hj, if_pos hj]
  obtain ⟨Z, hZ⟩ : ∃ Z, Z = Plain.fillTo 16 l n n := ⟨_, rfl⟩
  rw [← hZ] at HZ ⊢
  clear hZ
  go_enter Yba.func18, Yba.ntmps18
  go_wp2_with fail
  go_loop [3, 4] (fun t i => ∃ k : Nat, k ≤ n ∧ i = .int .i64 k ∧ t = .int .i64 (Plain.cnt Z k : Nat)) (fun _ i => n - (intOf i).toNat)
  case atStart => exact ⟨0, Nat.zero_le _, rfl, rfl⟩
  case round =>
    obtain ⟨k, hk, rfl, rfl⟩ := hrel
    have hc := Plain.cnt_le Z k
    by_cases hlt : k < n
    · obtain ⟨b, off, ha, hcell⟩ : ∃ b off, a0 = some ⟨b, off, none⟩ ∧ ∀ j, j < l.length → w.cell? ⟨b, off + j, none⟩ = some (.int .u8 (l.getD j 0)) := by
        rcases HLies.out with e | e
        · exfalso
          have := HL.out
          rw [e] at this
          simp at this
          omega
        · exact e
      subst ha
      obtain ⟨x, hx⟩ : ∃ x, x = l.getD k 0 := ⟨_, rfl⟩
      have hbx := HR.out k
      rw [← hx] at hbx
      have gx : w.cell? ⟨b, off + k, none⟩ = some (.int .u8 x) := by
        rw [hx]
        exact hcell k (by have := HL.out; omega)
      have HX : Hid (Z.getD k 0 = x % 16) := by rw [hx]; exact HZ.out k hlt
      clear hx hcell
      have i0 : (0 : Int) ≤ (k : Int) := by omega
      have i1 : (k : Int) < (n : Int) := by omega
      have m0 : 0 ≤ x % 16 := by omega
      have m1 : x % 16 < 16 := by omega
      by_cases e : x % 16 = 10
      · have hd : (x % 16 == 10) = true := by simp [e]
        have HE : Hid (x % 16 = 10) := e
        clear e
        go_wp2_with fail
        go_round
        case rel => exact ⟨k + 1, by omega, by go_num, by rw [Plain.cnt_yes (by rw [HX.out]; exact HE.out)]; go_num⟩
        case measure => simp [intOf]; omega
      · have hd : (x % 16 == 10) = false := by simp [e]
        have HE : Hid (¬ x % 16 = 10) := e
        clear e
        go_wp2_with fail
        go_round
        case rel => exact ⟨k + 1, by omega, by go_num, by rw [Plain.cnt_no (by rw [HX.out]; exact HE.out)]⟩
        case measure => simp [intOf]; omega
    · have hkn : k = n := by omega
      subst hkn
      go_wp2_with fail
      go_ret
      exact ⟨rfl, rfl⟩

end Go.Proofs.Ybulkaegq
