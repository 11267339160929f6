/-
  SEAT b1511a: THE CONTRACT OF 'zzs1511bbuild' (function 14).
-/
import Derived.Test.YbulkaegqCommon
import Derived.Deep.AppendLies
namespace Go.Proofs.Ybulkaegq
open Go.RowKit
set_option linter.unusedVariables false

theorem Yba.info51 : (Yba.prog.info? 51).map (fun i => (i.zero, i.size, i.bytes)) = some (some (.agg #[.string ⟨#[]⟩, .int .u64 0]), 2, 24) := by kernel_rfl

/-- The slice at block g holds n entries, whose names are N; below the call's own blocks nothing has turned. -/
def Built (w0 w : World) (g n cap : Nat) (N : List Int) : Prop :=
  N.length = n ∧ Below w0.heap.size w0 w ∧ ∃ xs, w.ownsRow w0.heap.size 51 2 (.slice (some ⟨g, 0, none⟩) n cap) n xs ∧ ∀ j, j < n → xs[2 * j]? = some (.string (nm (N.getD j 0)))

theorem built_start (w : World) : Built w (w.alloc (.cells #[] 51)) w.heap.size 0 0 [] :=
  ⟨rfl, (Below.refl _ _).alloc (Nat.le_refl _) _, [], World.ownsRow_lit w #[] 0 (Nat.le_refl _) (Nat.zero_le _) rfl, fun j hj => absurd hj (by omega)⟩

theorem Built.alloc {w0 w : World} {g n cap : Nat} {N : List Int} (h : Built w0 w g n cap N) (o : Obj) : Built w0 (w.alloc o) g n cap N := by
  obtain ⟨h1, h2, xs, h3, h4⟩ := h
  exact ⟨h1, h2.alloc h2.size _, xs, h3.alloc _, h4⟩

theorem Built.size {w0 w : World} {g n cap : Nat} {N : List Int} (h : Built w0 w g n cap N) : w0.heap.size ≤ w.heap.size := h.2.1.size

theorem built_push {w0 w w1 : World} {g n cap g' cap' : Nat} {N : List Int} {xs : List Value} {x : Int} {u : Value} (h1 : N.length = n) (h2 : Below w0.heap.size w0 w)
    (h3 : w.ownsRow w0.heap.size 51 2 (.slice (some ⟨g, 0, none⟩) n cap) n xs) (h4 : ∀ j, j < n → xs[2 * j]? = some (.string (nm (N.getD j 0)))) (o : Obj)
    (h5 : w1.ownsRow w0.heap.size 51 2 (.slice (some ⟨g', 0, none⟩) (n + 1) cap') (n + 1) (xs ++ [.string (nm x), u])) (h6 : (w.alloc o).grownBy w1 (some g)) : Built w0 w1 g' (n + 1) cap' (N ++ [x]) := by
  have hg : w0.heap.size ≤ g := by
    rcases h3.2 with ⟨e, _⟩ | ⟨g2, cap2, cur, e, hb, _⟩
    · simp at e
    · simp only [Value.slice.injEq, Option.some.injEq, Addr.mk.injEq, and_true, true_and] at e
      omega
  refine ⟨by rw [List.length_append, h1]; rfl, (h2.alloc h2.size o).grown h6 (by simp; have := h2.size; omega) (by intro k hk; cases hk; exact hg), _, h5, ?_⟩
  have hxl : xs.length = n * 2 := h3.1
  intro j hj
  by_cases e : j < n
  · rw [List.getElem?_append_left (by omega), h4 j e]
    congr 3
    simp [List.getD, List.getElem?_append_left (show j < N.length by omega)]
  · have e' : j = n := by omega
    subst e'
    rw [List.getElem?_append_right (by omega), show 2 * j - xs.length = 0 from by omega]
    simp [List.getD, ← h1]

theorem Built.cell {w0 w : World} {g n cap : Nat} {N : List Int} (h : Built w0 w g n cap N) (j : Nat) (hj : j < n) : w.cell? ⟨g, 2 * j, none⟩ = some (.string (nm (N.getD j 0))) := by
  obtain ⟨h1, h2, xs, h3, h4⟩ := h
  rw [h3.cellAt (2 * j) (by omega)]
  exact h4 j hj

set_option maxHeartbeats 2000000 in
theorem build_walk (l : List Int) (b off len0 cap0 : Nat) (w : World) (hl : l.length = len0) (hlen : len0 ≤ 256) (hr : ∀ j, 0 ≤ l.getD j 0 ∧ l.getD j 0 ≤ 255)
    (hc : ∀ j, j < len0 → w.cell? ⟨b, off + j, none⟩ = some (.int .u8 (l.getD j 0))) :
    Calls Yba.prog 14 #[.slice (some ⟨b, off, none⟩) len0 cap0] w fun e w' => ∃ g n cap, e = .returned (.slice (some ⟨g, 0, none⟩) n cap) ∧ Built w w' g n cap (Plain.buildTo l len0) := by
  obtain ⟨ti, hi, hz0, hz1, hz2⟩ := info_parts Yba.info51
  have HL : Hid (l.length = len0) := hl
  have HR : Hid (∀ j, 0 ≤ l.getD j 0 ∧ l.getD j 0 ≤ 255) := hr
  have HC : Hid (∀ j, j < len0 → w.cell? ⟨b, off + j, none⟩ = some (.int .u8 (l.getD j 0))) := hc
  clear hl hr hc
  go_enter Yba.func14, Yba.ntmps14
  go_wp2_with fail
  go_loopw [3, 4] (fun v i wr => ∃ k g n cap : Nat, k ≤ len0 ∧ i = .int .i64 k ∧ v = .slice (some ⟨g, 0, none⟩) n cap ∧ Hid (Built w wr g n cap (Plain.buildTo l k))) (fun _ i _ => len0 - (intOf i).toNat)
  case atStart => exact ⟨0, _, 0, 0, Nat.zero_le _, rfl, rfl, built_start w⟩
  case round =>
    obtain ⟨k, g, n, cap, hk, rfl, rfl, hB⟩ := hrel
    by_cases hlt : k < len0
    · have j0 : (0 : Int) ≤ (k : Int) := by omega
      have j1 : (k : Int) < (len0 : Int) := by omega
      have hconv : (convert 22 9 (.slice (some ⟨wr.heap.size, 0, none⟩) 1 1)).run Yba.prog (wr.alloc (.cells #[.int .u8 (k : Int)] 5)) = .ok (.string (nm (k : Int))) (wr.alloc (.cells #[.int .u8 (k : Int)] 5)) := run_convert_bytes_arg (P := Yba.prog) (wr.alloc (.cells #[.int .u8 (k : Int)] 5)) 22 5 Yba.underlying22 Yba.underlying5 wr.heap.size 0 1 1 [(k : Int)] rfl (fun i hi => by
        have : i = 0 := by omega
        subst this
        simp) 9 Yba.underlying9
      have hB1 := hB.out.alloc (.cells #[.int .u8 (k : Int)] 5)
      have HB1 : Hid (Built w (wr.alloc (.cells #[.int .u8 (k : Int)] 5)) g n cap (Plain.buildTo l k)) := hB1
      clear hB1 hB
      go_wp2_with fail
      clear hconv
      obtain ⟨mk, hmk⟩ : ∃ mk : Nat, mk = Plain.mul l k := ⟨_, rfl⟩
      have HMK : Hid (mk = Plain.mul l k) := hmk
      have hm4 : mk < 4 := by rw [hmk]; exact Plain.mul_lt l k
      obtain ⟨x, hx⟩ : ∃ x, x = l.getD k 0 := ⟨_, rfl⟩
      have hbx := HR.out k
      rw [← hx] at hbx
      have hxm : x % 4 = (mk : Int) := by rw [hmk, Plain.mul, ← hx]; omega
      have gx0 : w.cell? ⟨b, off + k, none⟩ = some (.int .u8 x) := by rw [hx]; exact HC.out k hlt
      have HG : Hid (w.cell? ⟨b, off + k, none⟩ = some (.int .u8 x)) := gx0
      clear hmk hx gx0
      go_loopw [3, 6] (fun v t ws => ∃ c g n cap : Nat, c ≤ mk ∧ t = .int .u8 c ∧ v = .slice (some ⟨g, 0, none⟩) n cap ∧ Hid (Built w ws g n cap (Plain.buildTo l k ++ List.replicate c (k : Int)))) (fun _ t _ => mk - (intOf t).toNat)
      case atStart => exact ⟨0, g, n, cap, Nat.zero_le _, rfl, rfl, by rw [List.replicate_zero, List.append_nil]; exact HB1⟩
      case round =>
        clear HB1
        obtain ⟨c, g, n, cap, hc, rfl, rfl, hB⟩ := hrel
        have gx : wr.cell? ⟨b, off + k, none⟩ = some (.int .u8 x) := by
          rw [← HG.out]
          exact hB.out.2.1.cell (World.block_lt_of_cell? w _ HG.out)
        by_cases hlt2 : c < mk
        · have j2 : (c : Int) < (mk : Int) := by omega
          have hlen2 := Plain.buildTo_length l k
          obtain ⟨h1, h2, xs, h3, h4⟩ := hB.out
          have hn : n ≤ 3 * k + c := by
            have := h1
            rw [List.length_append, List.length_replicate] at this
            omega
          have hsz := h2.size
          have H1 : Hid ((Plain.buildTo l k ++ List.replicate c (k : Int)).length = n) := h1
          have H4 : Hid (∀ j, j < n → xs[2 * j]? = some (.string (nm ((Plain.buildTo l k ++ List.replicate c (k : Int)).getD j 0)))) := h4
          have H2 : Hid (Below w.heap.size w wr) := h2
          have H3 : Hid (wr.ownsRow w.heap.size 51 2 (.slice (some ⟨g, 0, none⟩) n cap) n xs) := h3
          clear h1 h2 h3 h4 hB hlen2
          go_wp2_with (at_builtin; refine wpList_append_lies _ rfl _ _ 26 rfl w.heap.size 51 ti (.agg #[.string ⟨#[]⟩, .int .u64 0]) 2 24 Yba.underlying26 hi hz0 hz1 hz2 rfl (by decide) _ n xs rfl (H3.out.alloc _) ⟨wr.heap.size, 0, none⟩ 1 1 [.string (nm (k : Int)), .int .u64 (c : Int)] rfl rfl ?c1 ?c2 (by decide) ?c3 ?c4 ?c5 (wr.heap.size + 1) (by simp) ?_)
          case c1 =>
            intro j u hj
            match j, hj with
            | 0, hj => simp at hj; subst hj; simp [Addr.add]
            | 1, hj => simp at hj; subst hj; simp [Addr.add]
            | j + 2, hj => simp at hj
          case c2 =>
            intro u hu
            simp at hu
            rcases hu with rfl | rfl <;> rfl
          case c3 => unfold maxLen; omega
          case c4 => omega
          case c5 => simp; omega
          intro g' cap' w1 hown1 hgrow hat hg'
          have hnew := built_push H1.out H2.out H3.out H4.out _ hown1 hgrow
          rw [List.append_assoc, show List.replicate c (k : Int) ++ [(k : Int)] = List.replicate (c + 1) (k : Int) from List.replicate_succ'.symm] at hnew
          have HNEW : Hid (Built w w1 g' (n + 1) cap' (Plain.buildTo l k ++ List.replicate (c + 1) (k : Int))) := hnew
          clear hnew hown1 hgrow hat hg' H1 H2 H3 H4 gx
          go_wp2_with fail
          go_roundw
          case rel => exact ⟨c + 1, g', n + 1, cap', by omega, by go_num, rfl, HNEW⟩
          case measure => simp [intOf]; omega
        · have hcm : c = mk := by omega
          subst hcm
          have HB2 : Hid (Built w wr g n cap (Plain.buildTo l (k + 1))) := by
            have := hB.out
            rw [HMK.out] at this
            exact this
          clear hB
          go_wp2_with fail
          go_roundw
          case rel => exact ⟨k + 1, g, n, cap, by omega, by go_num, rfl, HB2⟩
          case measure => simp [intOf]; omega
    · have hkl : k = len0 := by omega
      subst hkl
      go_wp2_with fail
      go_ret
      exact ⟨g, n, cap, rfl, hB.out⟩

theorem build_none (a : Option Addr) (cap0 : Nat) (w : World) :
    Calls Yba.prog 14 #[.slice a 0 cap0] w fun e w' => ∃ g n cap, e = .returned (.slice (some ⟨g, 0, none⟩) n cap) ∧ Built w w' g n cap [] := by
  go_enter Yba.func14, Yba.ntmps14
  go_wp2_with fail
  refine wp_loop_rounds 1 ?_
  rw [rounds_succ]
  go_wp2_with fail
  go_ret
  exact ⟨_, 0, 0, rfl, built_start w⟩

theorem build_any (l : List Int) (a : Option Addr) (len0 cap0 : Nat) (w : World) (hl : l.length = len0) (hlen : len0 ≤ 256) (hr : ∀ j, 0 ≤ l.getD j 0 ∧ l.getD j 0 ≤ 255) (L : Lies w a l) :
    Calls Yba.prog 14 #[.slice a len0 cap0] w fun e w' => ∃ g n cap, e = .returned (.slice (some ⟨g, 0, none⟩) n cap) ∧ Built w w' g n cap (Plain.buildTo l len0) := by
  rcases L with rfl | ⟨b, off, rfl, hc⟩
  · have h0 : len0 = 0 := by rw [← hl]; rfl
    subst h0
    exact build_none a cap0 w
  · exact build_walk l b off len0 cap0 w hl hlen hr (fun j hj => hc j (by omega))

theorem Lies.below {w w' : World} {a : Option Addr} {l : List Int} (h : Lies w a l) (hb : Below w.heap.size w w') : Lies w' a l := by
  rcases h with rfl | ⟨b, off, rfl, hc⟩
  · exact Or.inl rfl
  · refine Or.inr ⟨b, off, rfl, fun j hj => ?_⟩
    rw [← hc j hj]
    exact hb.cell (World.block_lt_of_cell? w _ (hc j hj))

end Go.Proofs.Ybulkaegq
