/-
  SEAT b1511a: THE CONTRACT OF 'before' (function 11).
-/
import Derived.Test.YbulkaegqRows
import Derived.Test.YbulkaegqPlain
import Derived.WalkKit
import Derived.Deep.QuietTactic
import Derived.BigQuiet
import Derived.OpenShut
namespace Go.Proofs.Ybulkaegq
open Go.RowKit
set_option linter.unusedVariables false

/-- What the walks are told of a slice of bytes: the elements are 'l', at the cells from the address on. -/
def Lies (w : World) (a : Option Addr) (l : List Int) : Prop :=
  l = [] ∨ ∃ b off, a = some ⟨b, off, none⟩ ∧ ∀ j, j < l.length → w.cell? ⟨b, off + j, none⟩ = some (.int .u8 (l.getD j 0))

theorem ret_bool {a b : Bool} (h : a = b) : Ending.returned (.bool a) = .returned (.bool b) := by rw [h]

theorem drewN3 (w : World) (p q r : Nat) : ∃ m, ((w.drewN p).drewN q).drewN r = w.drewN m := ⟨p + q + r, by rw [World.drewN_drewN, World.drewN_drewN, Nat.add_assoc]⟩

/-- One of the two is empty: the loop is not entered. -/
theorem before_short (A B : List Int) (a b : Option Addr) (la lb ca cb : Nat) (w : World) (hA : A.length = la) (hB : B.length = lb) (h0 : la = 0 ∨ lb = 0) :
    Calls Yba.prog 11 #[.slice a la ca, .slice b lb cb] w fun e w' => e = .returned (.bool (Plain.bef A B)) ∧ ∃ n, w' = w.drewN n := by
  have hb : Plain.bef A B = decide (la < lb) := by
    rw [Plain.bef_out 0 A B (by omega) (by omega) (by intro j hj; omega) (by omega), hA, hB]
  rw [hb]
  clear hb hA hB
  by_cases hla : la = 0
  · subst hla
    by_cases hlb : lb = 0
    · subst hlb
      go_enter Yba.func11, Yba.ntmps11
      go_wp2
      refine wp_loop_rounds 1 ?_
      rw [rounds_succ]
      go_wp2
      go_ret
      exact ⟨ret_bool (by simp), 0, rfl⟩
    · go_enter Yba.func11, Yba.ntmps11
      go_wp2
      refine wp_loop_rounds 1 ?_
      rw [rounds_succ]
      go_wp2
      go_ret
      exact ⟨ret_bool (by simp), 0, rfl⟩
  · have hlb : lb = 0 := by omega
    subst hlb
    go_enter Yba.func11, Yba.ntmps11
    go_wp2
    refine wp_loop_rounds 1 ?_
    rw [rounds_succ]
    go_wp2
    go_ret
    exact ⟨ret_bool (by simp), 0, rfl⟩

set_option maxHeartbeats 1000000 in
theorem before_long (A B : List Int) (b1 o1 b2 o2 : Nat) (la lb ca cb : Nat) (w : World) (hA : A.length = la) (hB : B.length = lb) (mA : la ≤ maxLen) (mB : lb ≤ maxLen)
    (cA : ∀ j, j < A.length → w.cell? ⟨b1, o1 + j, none⟩ = some (.int .u8 (A.getD j 0))) (cB : ∀ j, j < B.length → w.cell? ⟨b2, o2 + j, none⟩ = some (.int .u8 (B.getD j 0))) :
    Calls Yba.prog 11 #[.slice (some ⟨b1, o1, none⟩) la ca, .slice (some ⟨b2, o2, none⟩) lb cb] w fun e w' => e = .returned (.bool (Plain.bef A B)) ∧ ∃ n, w' = w.drewN n := by
  unfold maxLen at mA mB
  have HA : Hid (A.length = la) := hA
  have HB : Hid (B.length = lb) := hB
  clear hA hB
  have HcA : Hid (∀ j, j < A.length → w.cell? ⟨b1, o1 + j, none⟩ = some (.int .u8 (A.getD j 0))) := cA
  have HcB : Hid (∀ j, j < B.length → w.cell? ⟨b2, o2 + j, none⟩ = some (.int .u8 (B.getD j 0))) := cB
  clear cA cB
  go_enter Yba.func11, Yba.ntmps11
  go_wp2
  go_loopw [5] (fun i wr => ∃ k n : Nat, k ≤ la ∧ k ≤ lb ∧ i = .int .i64 k ∧ wr = w.drewN n ∧ Hid (∀ j, j < k → A.getD j 0 = B.getD j 0)) (fun i _ => la - (intOf i).toNat)
  case atStart => exact ⟨0, 0, Nat.zero_le _, Nat.zero_le _, rfl, rfl, fun j hj => absurd hj (by omega)⟩
  case round =>
    obtain ⟨k, n, hka, hkb, rfl, rfl, hag⟩ := hrel
    by_cases hlt : k < la ∧ k < lb
    · obtain ⟨h1, h2⟩ := hlt
      obtain ⟨x, hx⟩ : ∃ x, x = A.getD k 0 := ⟨_, rfl⟩
      obtain ⟨y, hy⟩ : ∃ y, y = B.getD k 0 := ⟨_, rfl⟩
      have gA : w.cell? ⟨b1, o1 + k, none⟩ = some (.int .u8 x) := by rw [hx]; exact HcA.out k (by have := HA.out; omega)
      have gB : w.cell? ⟨b2, o2 + k, none⟩ = some (.int .u8 y) := by rw [hy]; exact HcB.out k (by have := HB.out; omega)
      have HX : Hid (x = A.getD k 0) := hx
      have HY : Hid (y = B.getD k 0) := hy
      clear hx hy
      have i1 : (0 : Int) ≤ (k : Int) := by omega
      have i2 : (k : Int) < (la : Int) := by omega
      have i3 : (k : Int) < (lb : Int) := by omega
      by_cases e : x = y
      · have hd : (x != y) = false := by simp [e]
        have HE : Hid (x = y) := e
        clear e
        go_wp2
        go_quiet (fail)
        go_wp2
        go_roundw
        case rel => exact ⟨k + 1, _, by omega, by omega, by go_num, rfl, Plain.agree_succ hag.out (by rw [← HX.out, ← HY.out]; exact HE.out)⟩
        case measure => simp [intOf]; omega
      · have hd : (x != y) = true := by simpa using e
        have HE : Hid (¬ x = y) := e
        clear e
        go_wp2
        go_quiet (fail)
        go_wp2
        go_quiet (fail)
        go_wp2
        go_ret
        exact ⟨ret_bool (by rw [Plain.bef_diff k A B (by have := HA.out; omega) (by have := HB.out; omega) hag.out (by rw [← HX.out, ← HY.out]; exact HE.out), ← HX.out, ← HY.out]), drewN3 _ _ _ _⟩
    · by_cases h1 : k < la
      · have h2 : lb ≤ k := by omega
        go_wp2
        go_ret
        exact ⟨ret_bool (by rw [Plain.bef_out k A B (by have := HA.out; omega) (by have := HB.out; omega) hag.out (by have := HB.out; omega), HA.out, HB.out]), _, rfl⟩
      · go_wp2
        go_ret
        exact ⟨ret_bool (by rw [Plain.bef_out k A B (by have := HA.out; omega) (by have := HB.out; omega) hag.out (by have := HA.out; omega), HA.out, HB.out]), _, rfl⟩

theorem before_any (A B : List Int) (a b : Option Addr) (la lb ca cb : Nat) (w : World) (hA : A.length = la) (hB : B.length = lb) (mA : la ≤ maxLen) (mB : lb ≤ maxLen) (LA : Lies w a A) (LB : Lies w b B) :
    Calls Yba.prog 11 #[.slice a la ca, .slice b lb cb] w fun e w' => e = .returned (.bool (Plain.bef A B)) ∧ ∃ n, w' = w.drewN n := by
  rcases LA with rfl | ⟨b1, o1, rfl, cA⟩
  · exact before_short [] B a b la lb ca cb w hA hB (Or.inl hA.symm)
  · rcases LB with rfl | ⟨b2, o2, rfl, cB⟩
    · exact before_short A [] _ b la lb ca cb w hA hB (Or.inr hB.symm)
    · exact before_long A B b1 o1 b2 o2 la lb ca cb w hA hB mA mB cA cB

/-- From what the frame hands over to what the walks are told. -/
theorem lies_of {w : World} {a : Option Addr} {len cap : Nat} {zs : List Int}
    (h : (a = none ∧ len = 0 ∧ cap = 0 ∧ zs = []) ∨ ∃ x, a = some x ∧ len ≤ cap ∧ cap ≤ maxLen ∧ zs.length = cap ∧ (∀ i, i < zs.length → w.cell? (x.add i) = some (.int .u8 (zs.getD i 0))) ∧ ∀ n ∈ zs, (Lit.int .u8 n).wf = true) :
    ∃ l : List Int, l.length = len ∧ len ≤ cap ∧ cap ≤ maxLen ∧ Lies w a l ∧ ∀ j, 0 ≤ l.getD j 0 ∧ l.getD j 0 ≤ 255 := by
  rcases h with ⟨rfl, rfl, rfl, rfl⟩ | ⟨x, rfl, hl, hm, hz, hc, hw⟩
  · exact ⟨[], rfl, Nat.le_refl _, Nat.zero_le _, Or.inl rfl, fun j => by simp⟩
  · refine ⟨zs.take len, by rw [List.length_take]; omega, hl, hm, ?_, fun j => ?_⟩
    · by_cases h0 : zs.length = 0
      · left
        have : zs = [] := List.length_eq_zero_iff.1 h0
        rw [this]; simp
      · right
        obtain ⟨b, off, rfl, hc'⟩ := ints_at hc (by omega)
        refine ⟨b, off, rfl, fun j hj => ?_⟩
        rw [List.length_take] at hj
        rw [hc' j (by omega)]
        have : (zs.take len).getD j 0 = zs.getD j 0 := by
          simp only [List.getD, List.getElem?_take]
          rw [if_pos (by omega)]
        rw [this]
    · by_cases hj : j < len
      · have e : (zs.take len).getD j 0 = zs.getD j 0 := by
          simp only [List.getD, List.getElem?_take]
          rw [if_pos hj]
        rw [e]
        have := range_u8 hw j
        simpa [List.getD] using this
      · have e : (zs.take len).getD j 0 = 0 := by
          simp only [List.getD, List.getElem?_take]
          rw [if_neg hj]; rfl
        rw [e]; omega

/-- The first m of what lies there lie there. -/
theorem Lies.take {w : World} {a : Option Addr} {l : List Int} (h : Lies w a l) (m : Nat) : Lies w a (l.take m) := by
  rcases h with rfl | ⟨b, off, rfl, hc⟩
  · left; simp
  · right
    refine ⟨b, off, rfl, fun j hj => ?_⟩
    rw [List.length_take] at hj
    rw [hc j (by omega)]
    have : (l.take m).getD j 0 = l.getD j 0 := by
      simp only [List.getD, List.getElem?_take]
      rw [if_pos (by omega)]
    rw [this]

theorem Lies.drewN {w : World} {a : Option Addr} {l : List Int} (h : Lies w a l) (n : Nat) : Lies (w.drewN n) a l := h

theorem below_drewN' (B : Nat) (w : World) (n : Nat) : Below B w (w.drewN n) := ⟨rfl, rfl, rfl, Nat.le_refl _, fun _ _ => rfl⟩

end Go.Proofs.Ybulkaegq
