/-
  THE PROOF OF 'Rows.LawS1511CLiteralsSaid': the frame after the skeleton tool's for a slice of integers, turned by hand to a slice of slices of bytes (open_int_rows); the walk is ours.
-/
import Derived.Test.YbulkaegqRows
import Derived.Test.YbulkaegqLitsWalk
import Derived.WalkKit
import Derived.ProofKit
import Derived.OpenShut
import Derived.ShutString
import Derived.ChangeOld
import Derived.Below
import Derived.Deep.Matrix
namespace Go.Proofs.Ybulkaegq.lawS1511CLiterals
open Go.ChangeShapes Go.WideShapes Go.ChangeAt Go.RowKit
open Go.ChangeMaps (open_string shut_string)
set_option linter.unusedVariables false

theorem own : ownKnob Yba.prog.godebug = none := by kernel_rfl
theorem laidOut : laidOutB Yba.prog = true := by kernel_rfl

/-- From the opened argument to what the walk is told. -/
theorem parts_of {W : World} {a : Addr} {len cap : Nat} {A : Nat → Option Addr} {L C : Nat → Nat} {Z : Nat → List Int} (hl : len ≤ cap)
    (h : ∀ r, r < cap → W.cell? (a.add r) = some (.slice (A r) (L r) (C r)) ∧ L r ≤ C r ∧ C r ≤ maxLen ∧ (Z r).length = C r ∧ (∀ n ∈ Z r, (Lit.int .u8 n).wf = true) ∧ (A r = none → C r = 0) ∧
      ∀ a', A r = some a' → 0 ≤ a'.block ∧ ∀ c, c < C r → W.cell? (a'.add c) = some (.int .u8 ((Z r).getD c 0))) : ∃ l, Parts W (some a) len A L C l := by
  have hx : ∀ r, r < len → ∃ l : List Int, l.length = L r ∧ L r ≤ maxLen ∧ Lies W (A r) l ∧ ∀ j, 0 ≤ l.getD j 0 ∧ l.getD j 0 ≤ 255 := by
    intro r hr
    obtain ⟨_, h1, h2, h3, h4, h5, h6⟩ := h r (by omega)
    have hrow : (A r = none ∧ L r = 0 ∧ C r = 0 ∧ Z r = []) ∨ ∃ x, A r = some x ∧ L r ≤ C r ∧ C r ≤ maxLen ∧ (Z r).length = C r ∧ (∀ i, i < (Z r).length → W.cell? (x.add i) = some (.int .u8 ((Z r).getD i 0))) ∧ ∀ n ∈ Z r, (Lit.int .u8 n).wf = true := by
      match hA : A r with
      | none =>
        have hC := h5 hA
        refine Or.inl ⟨rfl, by omega, hC, ?_⟩
        exact List.length_eq_zero_iff.1 (by omega)
      | some x => exact Or.inr ⟨x, rfl, h1, h2, h3, fun i hi => (h6 x hA).2 i (by omega), h4⟩
    obtain ⟨l, q1, q2, q3, q4, q5⟩ := lies_of hrow
    exact ⟨l, q1, Nat.le_trans q2 q3, q4, q5⟩
  obtain ⟨l, hl'⟩ := Go.Deep.choose_lt hx
  refine ⟨l, ?_, hl'⟩
  by_cases h0 : len = 0
  · exact Or.inl h0
  · obtain ⟨b, off, spot⟩ := a
    have hspot : spot = none := by simpa [Addr.add] using World.cell?_spot (h 0 (by omega)).1
    subst hspot
    exact Or.inr ⟨b, off, rfl, fun r hr => by rw [← add_plain]; exact (h r (by omega)).1⟩

/-! ### STEP 1: THE WALK -/
theorem walk (a0 : Option Addr) (len0 cap0 : Nat) (A : Nat → Option Addr) (L C : Nat → Nat) (l : Nat → List Int) (a1 : Int) (w : World) (hm : len0 ≤ maxLen) (w0 : Parts w a0 len0 A L C l) (w1 : (Lit.int .u8 a1).wf = true) :
    Calls Yba.prog 8 #[.slice a0 len0 cap0, .int .u8 a1] w fun e w' => e = .returned (.bool true) ∧ Below w.heap.size w w' := by
  have hv := bounds_u8 w1
  by_cases hlen : len0 ≤ 256
  · exact lits_walk a0 len0 cap0 A L C l a1 w w0 hlen hv
  · clear w0
    unfold maxLen at hm
    go_enter Yba.func8, Yba.ntmps8
    go_wp2_with fail
    go_ret
    exact ⟨rfl, Below.refl _ _⟩

/-! ### THE ROW's STEP: WRITTEN OUT: LEAVE IT -/
set_option maxRecDepth 100000 in
theorem lifted (os : Os) (started : os.Started) (H : Type) (enc : TypeId × Value → H) :
    ReturnsInHanded {} Yba.checked os 8 .any (Rows.lawS1511CLiteralsSpec.pre6 enc Yba.prog Yba.f8 Rows.lawS1511CLiteralsRow.domain false) (Rows.lawS1511CLiteralsSpec.post enc Yba.prog Yba.f8 false true false false) := by
  refine returnsInHanded_of_change (C := Yba.checked) own started (by kernel_rfl) Yba.func8
    (ChangeSpec.witness6 (enc := enc) (C := Yba.checked) false ⟨#[], #[.slice none 0 0, .int .u8 0], []⟩ 8 (by kernel_rfl) (by kernel_rfl) (by kernel_rfl) (by kernel_rfl)) ?_
  intro W base args ds gs before hval0 hW hcnd _
  have hval : ∀ (j : Nat) t v, Yba.f8.params[j]? = some t → args[j]? = some v → Value.okWide Yba.prog W .any base t v := hval0
  have hW' := hW
  obtain ⟨p, q, hA0, hV, rfl, hfz, hnd⟩ := hW
  have hA : DataW.TrodAll enc Yba.prog W 0 (fun _ => true) true Yba.f8.params.toList args.toList ds p := hA0
  rw [Yba.params8] at hA hval
  obtain ⟨v0, vs0, d0, ds0, p0, q0, hargs, rfl, rfl, h0, r0⟩ := trodAll_cons hA
  obtain ⟨v1, vs1, d1, ds1, p1, q1, rfl, rfl, rfl, h1, r1⟩ := trodAll_cons r0
  obtain ⟨rfl, rfl, rfl⟩ := trodAll_nil r1
  obtain rfl : args = #[v0, v1] := by cases args; simp_all
  obtain ⟨rfl, rfl⟩ := trodVars_none hV
  obtain ⟨a0, len0, cap0, rfl⟩ := okWide_slice Yba.underlying32 (hval 0 32 v0 rfl rfl)
  have k0 := h0
  have lt0 : ∀ x ∈ p0, x.block < W.heap.size := by obtain ⟨m, hm⟩ := k0; exact DataW.trod_lt m _ _ _ hm
  obtain ⟨A, L, C, l, hm0, w0⟩ : ∃ A L C l, len0 ≤ maxLen ∧ Parts W a0 len0 A L C l := by
    obtain ⟨fuel, hf⟩ := h0
    rcases Go.Deep.open_int_rows Yba.underlying32 Yba.underlying22 Yba.underlying5 (by kernel_rfl) (by kernel_rfl) hf with ⟨hcs, _⟩ | ⟨x, len, cap, A, L, C, Z, hcs, _, hl, hm, _, hr⟩
    · simp [Value.cells] at hcs
      obtain ⟨rfl, rfl, rfl⟩ := hcs
      exact ⟨fun _ => .none, fun _ => 0, fun _ => 0, fun _ => [], Nat.zero_le _, Or.inl rfl, fun r hr => absurd hr (by omega)⟩
    · simp [Value.cells] at hcs
      obtain ⟨rfl, rfl, rfl⟩ := hcs
      obtain ⟨l, hp⟩ := parts_of hl hr
      exact ⟨A, L, C, l, Nat.le_trans hl hm, hp⟩
  obtain ⟨a1, rfl, rfl, rfl, w1⟩ := open_int Yba.underlying5 (hval 1 5 v1 rfl rfl) h1
  clear hA0 hval0
  refine (walk a0 len0 cap0 A L C l a1 W hm0 w0 w1).mono fun e W' ⟨he, bel⟩ => ?_
  subst he
  exact ⟨_, rfl, _, _, _, [], _, [], hW', trodAll_mk1 (shut_bool Yba.underlying4 _), (trodAll_cons_mk (Below.trod laidOut (by kernel_rfl) (of_decide_eq_true (by kernel_rfl)) k0 bel lt0) (trodAll_cons_mk (shut_int Yba.underlying5 w1) trodAll_mk0)), rfl, bel.frame _, fun h => by cases h⟩

theorem over : Rows.lawS1511CLiteralsRow.holds Yba.pinned (OpenSpec.ofChange Rows.lawS1511CLiteralsSpec) :=
  OpenClaim.holds_of_wide 8 Yba.f8 rfl rfl rfl rfl rfl rfl rfl ⟨rfl, rfl, rfl, rfl, rfl⟩ rfl rfl rfl rfl rfl (by kernel_rfl) Yba.func8 (by kernel_rfl)
    (of_decide_eq_true (by kernel_rfl)) (by unfold Func.isWrapper; first | (rw [if_pos (by decide +kernel)]; kernel_rfl) | (rw [if_neg (by decide +kernel)]; exact ⟨rfl, rfl⟩))
    (fun os started H enc _ => lifted os started H enc)

/-- ████ THE STATEMENT ████ -/
theorem proved : Rows.LawS1511CLiteralsSaid := over
end Go.Proofs.Ybulkaegq.lawS1511CLiterals
