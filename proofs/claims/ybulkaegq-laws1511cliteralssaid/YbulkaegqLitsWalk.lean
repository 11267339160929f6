/-
  SEAT b1511a: THE WALK OF LawS1511CLiterals (function 8).
-/
import Derived.Test.YbulkaegqRepeatWalk
namespace Go.Proofs.Ybulkaegq
open Go.RowKit
set_option linter.unusedVariables false

theorem Yba.info34 : (Yba.prog.info? 34).map (fun i => (i.zero, i.size, i.bytes)) = some (some (.pointer none), 1, 8) := by kernel_rfl

/-! ### a row of pointers in a block of the call's own, known whole -/
def PRow (w : World) (B : Nat) (Ps : List (Option Addr)) : Prop := w.heap[B]? = some (.cells (Ps.map Value.pointer).toArray 34 (0, 0))

theorem PRow.cell {w : World} {B : Nat} {Ps : List (Option Addr)} (h : PRow w B Ps) (j : Nat) (hj : j < Ps.length) : w.cell? ⟨B, j, none⟩ = some (.pointer (Ps.getD j none)) := by
  rw [cell_of_row w B j _ 34 (0, 0) h]
  simp [List.getD, hj]

theorem PRow.frozen {w : World} {B : Nat} {Ps : List (Option Addr)} (h : PRow w B Ps) (j : Nat) : w.frozen? ⟨B, j, none⟩ = false := frozen_of_row w B j _ 34 h

theorem PRow.lt {w : World} {B : Nat} {Ps : List (Option Addr)} (h : PRow w B Ps) : B < w.heap.size := (Array.getElem?_eq_some_iff.1 h).1

theorem PRow.set {w : World} {B : Nat} {Ps : List (Option Addr)} (h : PRow w B Ps) (j : Nat) (u : Option Addr) : PRow (w.setCell ⟨B, j, none⟩ (.pointer u)) B (Ps.set j u) := by
  have := heap_setCell_same w B j _ 34 (.pointer u) h
  unfold PRow
  rw [this]
  simp [List.map_set]

theorem PRow.below {w w' : World} {B C : Nat} {Ps : List (Option Addr)} (h : PRow w B Ps) (hb : Below C w w') (hB : B < C) : PRow w' B Ps := by
  unfold PRow
  rw [hb.block B hB]
  exact h

theorem prow_of_owns {w : World} {base B n : Nat} {Ps : List (Option Addr)} (h : w.ownsRow base 34 1 (.slice (some ⟨B, 0, none⟩) n n) n (Ps.map Value.pointer)) : PRow w B Ps := by
  rcases h.2 with ⟨h', _⟩ | ⟨g, cap, cur, h', _, hg, _, _, hs, ht⟩
  · simp at h'
  · simp only [Value.slice.injEq, Option.some.injEq, Addr.mk.injEq, and_true, true_and] at h'
    obtain ⟨rfl, rfl⟩ := h'
    have : cur = (Ps.map Value.pointer).toArray := by
      rw [← ht, List.take_of_length_le (by rw [Array.length_toList, hs]; exact Nat.le_refl _)]
    unfold PRow
    rw [hg, this]

theorem pmade_is (n : Nat) : (madeCells #[Value.pointer none] n).toList = (List.replicate n (none : Option Addr)).map Value.pointer := by
  rw [List.map_replicate]
  exact toList_madeCells_one _ n

/-! ### the parts -/
theorem lies_below {w w' : World} {a : Option Addr} {l : List Int} (h : Lies w a l) (hb : Below w.heap.size w w') : Lies w' a l := by
  rcases h with rfl | ⟨b, off, rfl, hc⟩
  · exact Or.inl rfl
  · refine Or.inr ⟨b, off, rfl, fun j hj => ?_⟩
    rw [← hc j hj]
    exact hb.cell (World.block_lt_of_cell? w _ (hc j hj))

/-- What the walk is told of a slice of slices of bytes. -/
def Parts (w : World) (a : Option Addr) (len : Nat) (A : Nat → Option Addr) (L C : Nat → Nat) (l : Nat → List Int) : Prop :=
  (len = 0 ∨ ∃ b off, a = some ⟨b, off, none⟩ ∧ ∀ r, r < len → w.cell? ⟨b, off + r, none⟩ = some (.slice (A r) (L r) (C r))) ∧
  ∀ r, r < len → (l r).length = L r ∧ L r ≤ maxLen ∧ Lies w (A r) (l r) ∧ ∀ j, 0 ≤ (l r).getD j 0 ∧ (l r).getD j 0 ≤ 255

/-- The count of part r. -/
def N (L : Nat → Nat) (l : Nat → List Int) (r : Nat) : Nat := Plain.cnt (Plain.fillTo 16 (l r) (L r) (L r)) (L r)

theorem N_le (L : Nat → Nat) (l : Nat → List Int) (r : Nat) : N L l r ≤ L r := Plain.cnt_le _ _

/-- What holds of the made nodes behind k rounds: block S holds the pointers; the node of each part is a literal of its runes. -/
def Made (S len : Nat) (L : Nat → Nat) (l : Nat → List Int) (k : Nat) (w : World) : Prop :=
  ∃ (G : Nat → Nat) (Ps : List (Option Addr)), Ps.length = len ∧ PRow w S Ps ∧ (∀ j, j < k → Ps.getD j none = some ⟨G j, 0, none⟩) ∧ ∀ j, j < k → LitAt (S + 1) w (G j) (L j) (Plain.fillTo 16 (l j) (L j) (L j))

theorem made_start {S len : Nat} {L : Nat → Nat} {l : Nat → List Int} {w : World} (h : PRow w S (List.replicate len none)) : Made S len L l 0 w :=
  ⟨fun _ => 0, _, List.length_replicate, h, fun j hj => absurd hj (by omega), fun j hj => absurd hj (by omega)⟩

theorem made_step {S len k g : Nat} {L : Nat → Nat} {l : Nat → List Int} {w w1 : World} (h : Made S len L l k w) (hk : k < len) (hb : Below w.heap.size w w1) (hlit : LitAt w.heap.size w1 g (L k) (Plain.fillTo 16 (l k) (L k) (L k))) :
    Made S len L l (k + 1) (w1.setCell ⟨S, k, none⟩ (.pointer (some ⟨g, 0, none⟩))) := by
  obtain ⟨G, Ps, hl, hrow, hp, hlits⟩ := h
  have hS := hrow.lt
  have hkeep : ∀ b o v, S + 1 ≤ b → w1.cell? ⟨b, o, none⟩ = some v → (w1.setCell ⟨S, k, none⟩ (.pointer (some ⟨g, 0, none⟩))).cell? ⟨b, o, none⟩ = some v := by
    intro b o v hbS hc
    rw [← hc]
    exact World.cell?_of_block (Below.heap_setCell _ _ _ _ (by show b ≠ S; omega))
  refine ⟨fun j => if j = k then g else G j, Ps.set k (some ⟨g, 0, none⟩), by rw [List.length_set, hl], (hrow.below hb hS).set k _, ?_, ?_⟩
  · intro j hj
    by_cases e : j = k
    · subst e
      simp [List.getD, hl, hk]
    · have := hp j (by omega)
      simp only [if_neg e]
      rw [← this]
      simp [List.getD, Ne.symm e]
  · intro j hj
    by_cases e : j = k
    · subst e
      simp only [if_true]
      exact (hlit.mono (by omega)).same hkeep
    · simp only [if_neg e]
      exact ((hlits j (by omega)).below hb).same hkeep

theorem made_ends {S len : Nat} {L : Nat → Nat} {l : Nat → List Int} {w W : World} (h : Made S len L l len w) (hb : Below w.heap.size w W) (hL : ∀ j, j < len → L j ≤ 256) :
    ∃ G : Nat → Nat, (∀ j, j < len → W.cell? ⟨S, j, none⟩ = some (.pointer (some ⟨G j, 0, none⟩))) ∧ ∀ j, j < len → Ends W (G j) (N L l j) := by
  obtain ⟨G, Ps, hl, hrow, hp, hlits⟩ := h
  refine ⟨G, fun j hj => ?_, fun j hj => ?_⟩
  · rw [(hrow.below hb hrow.lt).cell j (by omega), hp j hj]
  · exact ((hlits j hj).below hb).ends (by have := hL j hj; omega)

/-- A node over the row of pointers. -/
abbrev node (w : World) (op : Int) (S len : Nat) : World :=
  w.alloc (.cells #[.int .u8 op, .int .u16 0, .slice (some ⟨S, 0, none⟩) len len, .pointer none, .slice none 0 0, .int .i32 0, .int .i32 0, .int .i64 0, .int .i64 0, .int .i64 0, .string ⟨#[]⟩] 44)

theorem node_op (w : World) (op : Int) (S len : Nat) : (node w op S len).cell? ⟨w.heap.size, 0, none⟩ = some (.int .u8 op) := by simp [node]
theorem node_sub (w : World) (op : Int) (S len : Nat) : (node w op S len).cell? ⟨w.heap.size, 2, none⟩ = some (.slice (some ⟨S, 0, none⟩) len len) := by simp [node]
theorem node_below (w : World) (op : Int) (S len : Nat) : Below w.heap.size w (node w op S len) := (Below.refl _ _).alloc (Nat.le_refl _) _

theorem cat_ends {S len : Nat} {L : Nat → Nat} {l : Nat → List Int} {w W : World} (h : Made S len L l len w) (hL : ∀ j, j < len → L j ≤ 256) (hlen : len ≤ 256) (hb : Below (w.heap.size + 1) (node w 18 S len) W) : Ends W w.heap.size (Plain.sumTo (N L l) len) := by
  obtain ⟨G, h1, h2⟩ := made_ends h ((node_below w 18 S len).trans (hb.mono (by omega))) hL
  refine line_cat w.heap.size S W len len G (N L l) hlen ?_ ?_ h1 (fun j hj => by have := N_le L l j; have := hL j hj; omega) h2
  · rw [← node_op w 18 S len]; exact hb.cell (by show w.heap.size < w.heap.size + 1; omega)
  · rw [← node_sub w 18 S len]; exact hb.cell (by show w.heap.size < w.heap.size + 1; omega)

theorem alt_ends {S len : Nat} {L : Nat → Nat} {l : Nat → List Int} {w W : World} (h : Made S len L l len w) (hL : ∀ j, j < len → L j ≤ 256) (hlen : len ≤ 256) (hb : Below (w.heap.size + 1) (node w 19 S len) W) : Ends W w.heap.size (Plain.mostTo (N L l) len) := by
  obtain ⟨G, h1, h2⟩ := made_ends h ((node_below w 19 S len).trans (hb.mono (by omega))) hL
  refine line_alt w.heap.size S W len len G (N L l) hlen ?_ ?_ h1 (fun j hj => by have := N_le L l j; have := hL j hj; omega) h2
  · rw [← node_op w 19 S len]; exact hb.cell (by show w.heap.size < w.heap.size + 1; omega)
  · rw [← node_sub w 19 S len]; exact hb.cell (by show w.heap.size < w.heap.size + 1; omega)

/-- A capture or a quest over a node that was made just before. -/
abbrev top (w : World) (o : Obj) (op : Int) : World :=
  ((w.alloc o).alloc (.cells #[.pointer (some ⟨w.heap.size, 0, none⟩)] 34)).alloc (.cells #[.int .u8 op, .int .u16 0, .slice (some ⟨w.heap.size + 1, 0, none⟩) 1 1, .pointer none, .slice none 0 0, .int .i32 0, .int .i32 0, .int .i64 0, .int .i64 0, .int .i64 0, .string ⟨#[]⟩] 44)

theorem top_below (w : World) (o : Obj) (op : Int) : Below (w.heap.size + 1) (w.alloc o) (top w o op) :=
  (((Below.refl _ _).alloc (by simp) _).alloc (by simp) _)

theorem top_ends {w : World} {o : Obj} {op n : Int} (hop : op = 13 ∨ op = 16) (hE : ∀ W, Below (w.heap.size + 1) (w.alloc o) W → Ends W w.heap.size n) : Ends (top w o op) (w.heap.size + 1 + 1) n := by
  refine line_one (w.heap.size + 1 + 1) w.heap.size (w.heap.size + 1) (top w o op) op n 1 hop ?_ ?_ ?_ (hE _ (top_below w o op))
  · have h := over_op (w.alloc o) w.heap.size op 0 0
    simp only [over, World.size_alloc] at h
    exact h
  · have h := over_sub (w.alloc o) w.heap.size op 0 0
    simp only [over, World.size_alloc] at h
    exact h
  · have h := over_ptr (w.alloc o) w.heap.size op 0 0
    simp only [over, World.size_alloc] at h
    exact h

set_option maxHeartbeats 4000000 in
theorem lits_walk (a0 : Option Addr) (len0 cap0 : Nat) (A : Nat → Option Addr) (L C : Nat → Nat) (l : Nat → List Int) (a1 : Int) (w : World) (hP : Parts w a0 len0 A L C l) (hlen : len0 ≤ 256) (h1 : 0 ≤ a1 ∧ a1 ≤ 255) :
    Calls Yba.prog 8 #[.slice a0 len0 cap0, .int .u8 a1] w fun e w' => e = .returned (.bool true) ∧ Below w.heap.size w w' := by
  obtain ⟨ti, hi, hz0, hz1, hz2⟩ := info_parts Yba.info34
  have HP : Hid (Parts w a0 len0 A L C l) := hP
  clear hP
  go_enter Yba.func8, Yba.ntmps8
  go_wp2_with fail
  go_loop [5] (fun i => ∃ k : Nat, k ≤ len0 ∧ i = .int .i64 k ∧ Hid (∀ r, r < k → L r ≤ 256)) (fun i => len0 - (intOf i).toNat)
  case atStart => exact ⟨0, Nat.zero_le _, rfl, fun r hr => absurd hr (by omega)⟩
  case round =>
    obtain ⟨k, hk, rfl, hsm⟩ := hrel
    by_cases hlt : k < len0
    · obtain ⟨b, off, ha, hc⟩ : ∃ b off, a0 = some ⟨b, off, none⟩ ∧ ∀ r, r < len0 → w.cell? ⟨b, off + r, none⟩ = some (.slice (A r) (L r) (C r)) := by
        rcases HP.out.1 with e | e
        · omega
        · exact e
      subst ha
      have gc := hc k hlt
      have hLm := (HP.out.2 k hlt).2.1
      unfold maxLen at hLm
      clear hc
      have i0 : (0 : Int) ≤ (k : Int) := by omega
      have i1 : (k : Int) < (len0 : Int) := by omega
      by_cases hbig : L k ≤ 256
      · have i2 : ¬ (256 : Int) < (L k : Int) := by omega
        go_wp2_with fail
        go_round
        case rel => exact ⟨k + 1, by omega, by go_num, fun r hr => if e : r = k then by rw [e]; exact hbig else hsm.out r (by omega)⟩
        case measure => simp [intOf]; omega
      · have i2 : (256 : Int) < (L k : Int) := by omega
        go_wp2_with fail
        go_ret
        exact ⟨rfl, Below.refl _ _⟩
    · have hkl : k = len0 := by omega
      subst hkl
      go_wp2_with (at_make; refine wpList_make_full _ rfl _ _ 33 rfl w.heap.size 34 ti (.pointer none) 1 Yba.underlying33 hi hz0 hz1 .i64 .i64 _ _ k rfl rfl (by omega) (by omega) (by rw [hz2]; omega) (by unfold maxLen; omega) (Nat.le_refl _) ?_)
      intro w1 hown hgrow
      rw [pmade_is] at hown
      have HMADE : Hid (Made w.heap.size k L l 0 w1) := made_start (prow_of_owns hown)
      have HB : Hid (Below w.heap.size w w1) := (Below.refl _ _).grown hgrow (Nat.le_refl _) (by intro k hk; cases hk)
      clear hown hgrow
      clear hi hz0 hz1 hz2 hk hlt
      go_wp2_with fail
      go_loopw [7, 8, 9] (fun s t i wr => ∃ q : Nat, q ≤ k ∧ i = .int .i64 q ∧ s = .int .i64 (Plain.sumTo (N L l) q : Nat) ∧ t = .int .i64 (Plain.mostTo (N L l) q : Nat) ∧ Hid (Made w.heap.size k L l q wr) ∧ Hid (Below w.heap.size w wr)) (fun _ _ i _ => k - (intOf i).toNat)
      case atStart => exact ⟨0, Nat.zero_le _, rfl, rfl, rfl, HMADE, HB⟩
      case round =>
        clear HMADE HB
        obtain ⟨q, hq, rfl, rfl, rfl, hmade, hbel⟩ := hrel
        have hs0 := Plain.sumTo_le (N L l) 256 q (fun j hj => by have := N_le L l j; have := hsm.out j (by omega); omega)
        have hs1 : Plain.sumTo (N L l) q ≤ 65536 := by omega
        have ht1 := Plain.mostTo_le (N L l) 256 q (fun j hj => by have := N_le L l j; have := hsm.out j (by omega); omega)
        clear hs0
        by_cases hlt : q < k
        · obtain ⟨b, off, ha, hc⟩ : ∃ b off, a0 = some ⟨b, off, none⟩ ∧ ∀ r, r < k → w.cell? ⟨b, off + r, none⟩ = some (.slice (A r) (L r) (C r)) := by
            rcases HP.out.1 with e | e
            · omega
            · exact e
          subst ha
          have hcq := hc q hlt
          have hbw : b < w.heap.size := World.block_lt_of_cell? w _ hcq
          have gc : wr.cell? ⟨b, off + q, none⟩ = some (.slice (A q) (L q) (C q)) := by
            rw [← hcq]
            exact hbel.out.cell hbw
          have HCQ : Hid (w.cell? ⟨b, off + q, none⟩ = some (.slice (A q) (L q) (C q))) := hcq
          obtain ⟨p1, p2, p3, p4⟩ := HP.out.2 q hlt
          have hLq := hsm.out q hlt
          have P1 : Hid ((l q).length = L q) := p1
          have P3 : Hid (Lies w (A q) (l q)) := p3
          have P4 : Hid (∀ j, 0 ≤ (l q).getD j 0 ∧ (l q).getD j 0 ≤ 255) := p4
          clear hc hcq p1 p2 p3 p4
          have i0 : (0 : Int) ≤ (q : Int) := by omega
          have i1 : (q : Int) < (k : Int) := by omega
          go_wp2_with fail
          refine (lit_any (l q) (A q) (L q) (C q) wr P1.out (lies_below P3.out hbel.out) P4.out (by omega)).mono ?_
          rintro e w2 ⟨g, rfl, hb2, hlit⟩
          have HM2 : Hid (Made w.heap.size k L l (q + 1) (w2.setCell ⟨w.heap.size, q, none⟩ (.pointer (some ⟨g, 0, none⟩)))) := made_step hmade.out hlt hb2 hlit
          have hB2 : Below w.heap.size w (w2.setCell ⟨w.heap.size, q, none⟩ (.pointer (some ⟨g, 0, none⟩))) := (hbel.out.trans (hb2.mono hbel.out.size)).setCell (Nat.le_refl _) _
          have HB2 : Hid (Below w.heap.size w (w2.setCell ⟨w.heap.size, q, none⟩ (.pointer (some ⟨g, 0, none⟩)))) := hB2
          obtain ⟨G, Ps, hl, hrow, _, _⟩ := hmade.out
          have hrow2 := hrow.below hb2 hrow.lt
          have c2 := hrow2.cell q (by omega)
          have f2 := hrow2.frozen q
          have gc2 : (w2.setCell ⟨w.heap.size, q, none⟩ (.pointer (some ⟨g, 0, none⟩))).cell? ⟨b, off + q, none⟩ = some (.slice (A q) (L q) (C q)) := by
            rw [← HCQ.out]
            exact hB2.cell hbw
          clear hb2 hlit hB2 hrow hrow2 hmade hbel gc hl
          go_wp2_with fail
          have hcall : Calls Yba.prog 18 #[.slice (A q) (L q) (C q)] (w2.setCell ⟨w.heap.size, q, none⟩ (.pointer (some ⟨g, 0, none⟩))) fun e w' => e = .returned (.int .i64 (N L l q : Nat)) ∧ w' = w2.setCell ⟨w.heap.size, q, none⟩ (.pointer (some ⟨g, 0, none⟩)) :=
            count_any (l q) (A q) (L q) (C q) _ P1.out (lies_below P3.out HB2.out) P4.out (by omega)
          refine hcall.mono ?_
          rintro e w' ⟨rfl, rfl⟩
          clear hcall c2 f2 gc2
          have hNq : N L l q ≤ 256 := by have := N_le L l q; omega
          by_cases hmax : Plain.mostTo (N L l) q < N L l q
          · have i2 : (Plain.mostTo (N L l) q : Int) < (N L l q : Int) := by omega
            go_wp2_with fail
            go_roundw
            case rel => exact ⟨q + 1, by omega, by go_num, by rw [Plain.sumTo]; go_num, by rw [Plain.mostTo_yes hmax], HM2, HB2⟩
            case measure => simp [intOf]; omega
          · have i2 : ¬ (Plain.mostTo (N L l) q : Int) < (N L l q : Int) := by omega
            go_wp2_with fail
            go_roundw
            case rel => exact ⟨q + 1, by omega, by go_num, by rw [Plain.sumTo]; go_num, by rw [Plain.mostTo_no hmax], HM2, HB2⟩
            case measure => simp [intOf]; omega
        · have hqk : q = k := by omega
          subst hqk
          have v1 : (0 : Int) ≤ a1 % 4 := by omega
          have v2 : a1 % 4 < 4 := by omega
          have hsz : w.heap.size ≤ wr.heap.size := hbel.out.size
          by_cases s0 : a1 % 4 = 0
          · have t0 : (a1 % 4 == 0) = true := by simp [s0]
            have t2 : (a1 % 4 == 2) = false := by simp [s0]
            have t3 : (a1 % 4 == 3) = false := by simp [s0]
            clear s0
            go_wp2_with fail
            refine (Ends.calls (cat_ends hmade.out hsm.out hlen (Below.refl _ _))).mono ?_
            rintro e w' ⟨rfl, rfl⟩
            go_wp2_with fail
            go_ret
            exact ⟨ret_bool (by simp), hbel.out.alloc hsz _⟩
          · have t0 : (a1 % 4 == 0) = false := by simp [s0]
            by_cases s2 : a1 % 4 = 2
            · have t2 : (a1 % 4 == 2) = true := by simp [s2]
              have t3 : (a1 % 4 == 3) = false := by simp [s2]
              clear s0 s2
              go_wp2_with fail
              refine (Ends.calls (top_ends (Or.inl rfl) (fun W hW => cat_ends hmade.out hsm.out hlen hW))).mono ?_
              rintro e w' ⟨rfl, rfl⟩
              go_wp2_with fail
              go_ret
              exact ⟨ret_bool (by simp), (hbel.out.alloc hsz _).trans ((top_below wr _ 13).mono (by omega))⟩
            · have t2 : (a1 % 4 == 2) = false := by simp [s2]
              by_cases s3 : a1 % 4 = 3
              · have t3 : (a1 % 4 == 3) = true := by simp [s3]
                clear s0 s2 s3
                go_wp2_with fail
                refine (Ends.calls (top_ends (Or.inr rfl) (fun W hW => alt_ends hmade.out hsm.out hlen hW))).mono ?_
                rintro e w' ⟨rfl, rfl⟩
                go_wp2_with fail
                go_ret
                exact ⟨ret_bool (by simp), (hbel.out.alloc hsz _).trans ((top_below wr _ 16).mono (by omega))⟩
              · have t3 : (a1 % 4 == 3) = false := by simp [s3]
                clear s0 s2 s3
                go_wp2_with fail
                refine (Ends.calls (alt_ends hmade.out hsm.out hlen (Below.refl _ _))).mono ?_
                rintro e w' ⟨rfl, rfl⟩
                go_wp2_with fail
                go_ret
                exact ⟨ret_bool (by simp), hbel.out.alloc hsz _⟩

end Go.Proofs.Ybulkaegq
