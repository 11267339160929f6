/-
  SEAT b1511a: THE CONTRACTS OF 'bytes.Equal' (function 13) and 'bytes.Compare' (function 12, over the entry 20) at two slices of bytes.
-/
import Derived.Test.YbulkaegqBefore
import Derived.Laws.BytesArg
import Derived.Lib.BytesEntry
namespace Go.Proofs.Ybulkaegq
open Go.RowKit
set_option linter.unusedVariables false

/-! ### plain: numbers 0 .. 255 and their bytes -/
theorem byte_inj {x y : Int} (hx : 0 ≤ x ∧ x ≤ 255) (hy : 0 ≤ y ∧ y ≤ 255) : (UInt8.ofNat x.toNat = UInt8.ofNat y.toNat) ↔ x = y := by
  constructor
  · intro h
    have h' := congrArg UInt8.toNat h
    simp only [UInt8.toNat_ofNat'] at h'
    omega
  · intro h; rw [h]

theorem byte_lt {x y : Int} (hx : 0 ≤ x ∧ x ≤ 255) (hy : 0 ≤ y ∧ y ≤ 255) : (UInt8.ofNat x.toNat < UInt8.ofNat y.toNat) ↔ x < y := by
  rw [UInt8.lt_iff_toNat_lt]
  simp only [UInt8.toNat_ofNat']
  omega

theorem range_tail {x : Int} {xs : List Int} (h : ∀ j, 0 ≤ (x :: xs).getD j 0 ∧ (x :: xs).getD j 0 ≤ 255) : (0 ≤ x ∧ x ≤ 255) ∧ ∀ j, 0 ≤ xs.getD j 0 ∧ xs.getD j 0 ≤ 255 :=
  ⟨h 0, fun j => h (j + 1)⟩

theorem bytes_eq : ∀ (A B : List Int), (∀ j, 0 ≤ A.getD j 0 ∧ A.getD j 0 ≤ 255) → (∀ j, 0 ≤ B.getD j 0 ∧ B.getD j 0 ≤ 255) → (Lib.bytesOf A = Lib.bytesOf B ↔ A = B)
  | [], [], _, _ => by simp
  | [], _ :: _, _, _ => by simp [Lib.bytesOf]
  | _ :: _, [], _, _ => by simp [Lib.bytesOf]
  | x :: xs, y :: ys, hA, hB => by
    obtain ⟨hx, hxs⟩ := range_tail hA
    obtain ⟨hy, hys⟩ := range_tail hB
    have ih := bytes_eq xs ys hxs hys
    unfold Lib.bytesOf at ih ⊢
    rw [List.map_cons, List.map_cons, List.cons.injEq, List.cons.injEq, byte_inj hx hy, ih]

theorem bytes_cmp : ∀ (A B : List Int), (∀ j, 0 ≤ A.getD j 0 ∧ A.getD j 0 ≤ 255) → (∀ j, 0 ≤ B.getD j 0 ∧ B.getD j 0 ≤ 255) → decide (Lib.compareBytes (Lib.bytesOf A) (Lib.bytesOf B) < 0) = Plain.bef A B
  | [], [], _, _ => by decide
  | [], _ :: _, _, _ => by simp [Lib.bytesOf, Lib.compareBytes, Plain.bef]
  | _ :: _, [], _, _ => by simp [Lib.bytesOf, Lib.compareBytes, Plain.bef]
  | x :: xs, y :: ys, hA, hB => by
    obtain ⟨hx, hxs⟩ := range_tail hA
    obtain ⟨hy, hys⟩ := range_tail hB
    have ih := bytes_cmp xs ys hxs hys
    unfold Lib.bytesOf at ih ⊢
    rw [List.map_cons, List.map_cons, Lib.compareBytes, Plain.bef]
    by_cases e : x = y
    · subst e
      rw [if_neg (by rw [byte_lt hx hx]; omega), if_neg (by rw [byte_lt hx hx]; omega), if_pos rfl]
      exact ih
    · rw [if_neg e]
      by_cases hlt : x < y
      · rw [if_pos ((byte_lt hx hy).2 hlt), decide_eq_true hlt]
        decide
      · rw [if_neg (by rw [byte_lt hx hy]; exact hlt), if_pos ((byte_lt hy hx).2 (by omega)), decide_eq_false hlt]
        decide

theorem bytes_cmp_ge (A B : List UInt8) : -1 ≤ Lib.compareBytes A B ∧ Lib.compareBytes A B ≤ 1 := by
  induction A generalizing B with
  | nil => cases B <;> simp [Lib.compareBytes]
  | cons x xs ih =>
    cases B with
    | nil => simp [Lib.compareBytes]
    | cons y ys =>
      rw [Lib.compareBytes]
      split
      · omega
      · split
        · omega
        · exact ih ys

/-! ### bytes.Equal -/
theorem conv_lies (w : World) (a : Option Addr) (l : List Int) (len cap : Nat) (L : Lies w a l) (hl : l.length = len) :
    (convert 22 9 (.slice a len cap)).run Yba.prog w = .ok (.string (strOfNums l)) w := by
  rcases L with rfl | ⟨b, off, rfl, hc⟩
  · have h0 : len = 0 := by rw [← hl]; rfl
    subst h0
    cases a with
    | none => exact run_convert_bytes_nil w 22 5 Yba.underlying22 Yba.underlying5 0 cap 9 Yba.underlying9
    | some x =>
      rw [run_convert_bytes_string w 22 9 5 (some x) 0 cap Yba.underlying22 Yba.underlying5 Yba.underlying9]
      rw [run_bytesToString w x 0 cap [] (run_loadCells_list w x [] (fun j v h => by simp at h))]
      rfl
  · exact run_convert_bytes_arg w 22 5 Yba.underlying22 Yba.underlying5 b off len cap l hl (fun i hi => hc i (by omega)) 9 Yba.underlying9

theorem equal_any (A B : List Int) (a b : Option Addr) (la lb ca cb : Nat) (w : World) (hA : A.length = la) (hB : B.length = lb) (LA : Lies w a A) (LB : Lies w b B) (rA : ∀ j, 0 ≤ A.getD j 0 ∧ A.getD j 0 ≤ 255) (rB : ∀ j, 0 ≤ B.getD j 0 ∧ B.getD j 0 ≤ 255) :
    Calls Yba.prog 13 #[.slice a la ca, .slice b lb cb] w fun e w' => e = .returned (.bool (decide (A = B))) ∧ w' = w := by
  have c1 := conv_lies w a A la ca LA hA
  have c2 := conv_lies w b B lb cb LB hB
  have HE : Hid (((strOfNums A).toList == (strOfNums B).toList) = decide (A = B)) := by
    rw [Lib.strOfNums_toList, Lib.strOfNums_toList]
    show _ = _
    rw [Bool.eq_iff_iff]
    simp [bytes_eq A B rA rB]
  clear LA LB rA rB
  go_enter Yba.func13, Yba.ntmps13
  go_wp2
  go_ret
  exact ⟨ret_bool HE.out, rfl⟩

/-! ### bytes.Compare -/
theorem bytesOf_lies (w : World) (a : Option Addr) (l : List Int) (len cap : Nat) (L : Lies w a l) (hl : l.length = len) :
    (Extern.Bytes.bytesOf (.slice a len cap)).run Yba.prog w = .ok ⟨(Lib.bytesOf l).toArray⟩ w := by
  have he : ∀ m : List Int, (⟨ByteArray.empty.data ++ (Lib.bytesOf m).toArray⟩ : ByteArray) = ⟨(Lib.bytesOf m).toArray⟩ := by
    intro m
    apply ByteArray.ext
    show (#[] : Array UInt8) ++ (Lib.bytesOf m).toArray = (Lib.bytesOf m).toArray
    simp
  rcases L with rfl | ⟨b, off, rfl, hc⟩
  · have h0 : len = 0 := by rw [← hl]; rfl
    subst h0
    cases a with
    | none => rfl
    | some x =>
      have := Lib.run_loadBytesX (P := Yba.prog) w [] x .empty (fun j v h => by simp at h)
      rw [he] at this
      exact this
  · have := Lib.run_loadBytesX (P := Yba.prog) w l ⟨b, off, none⟩ .empty (fun j x hj => by
      have hjl : j < l.length := (List.getElem?_eq_some_iff.1 hj).1
      have e : (⟨b, off, none⟩ : Addr).add j = ⟨b, off + j, none⟩ := by unfold Addr.add; split <;> simp_all
      rw [e, hc j hjl, List.getD_eq_getElem?_getD, hj]
      rfl)
    rw [he, hl] at this
    exact this

theorem run_compare_lies (A B : List Int) (a b : Option Addr) (la lb ca cb : Nat) (w : World) (hA : A.length = la) (hB : B.length = lb) (LA : Lies w a A) (LB : Lies w b B) :
    (Extern.BytealgCompare.compare #[.slice a la ca, .slice b lb cb]).run Yba.prog w = .ok (.int .i64 (Lib.compareBytes (Lib.bytesOf A) (Lib.bytesOf B))) w := by
  have h1 := bytesOf_lies w a A la ca LA hA
  have h2 := bytesOf_lies w b B lb cb LB hB
  change Sem.run Yba.prog (do pure (goInt (Extern.BytealgCompare.cmp (← Extern.Bytes.bytesOf (.slice a la ca)) (← Extern.Bytes.bytesOf (.slice b lb cb))))) w = _
  simp only [Sem.run_bind, h1, h2, Sem.run_pure, Result.andThen]
  rw [Lib.cmp_eq]
  rfl

theorem compare_any (A B : List Int) (a b : Option Addr) (la lb ca cb : Nat) (w : World) (hA : A.length = la) (hB : B.length = lb) (LA : Lies w a A) (LB : Lies w b B) :
    Calls Yba.prog 12 #[.slice a la ca, .slice b lb cb] w fun e w' => e = .returned (.int .i64 (Lib.compareBytes (Lib.bytesOf A) (Lib.bytesOf B))) ∧ w' = w := by
  have hrun := run_compare_lies A B a b la lb ca cb w hA hB LA LB
  have HR : Hid ((Extern.BytealgCompare.compare #[.slice a la ca, .slice b lb cb]).run Yba.prog w = .ok (.int .i64 (Lib.compareBytes (Lib.bytesOf A) (Lib.bytesOf B))) w) := hrun
  clear hrun LA LB
  go_enter Yba.func12, Yba.ntmps12
  go_wp2
  rw [run_callFunc_extern Yba.func20 (by kernel_rfl) (by kernel_rfl) (by kernel_rfl) (e := Extern.BytealgCompare.compare) (by kernel_rfl), HR.out]
  simp only [Result.andThen]
  rw [Oper.upon_value]
  go_wp2
  go_ret
  exact ⟨rfl, rfl⟩

end Go.Proofs.Ybulkaegq
