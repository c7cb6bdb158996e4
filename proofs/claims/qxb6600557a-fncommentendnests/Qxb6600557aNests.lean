/-
  THE WALK of FnCommentEndNests.
-/
import Derived.Test.Qxb6600557aScan
import Derived.Test.Qxb6600557aGuards
namespace Go.Proofs.Qxb6600557a.Nests
open Go.RowKit

theorem zzce_zero (s : ByteArray) (w : World) (hs : s.size ≤ 16777216) :
    Calls Try.prog 16 #[.string s, .int .i64 0] w fun e w' => e = .returned (.int .i64 (Plain.ceA s.data.toList 1 0)) ∧ w' = w :=
  zzce_any s 0 w hs (Nat.zero_le _)

theorem ret_bne {a b : Int} (h : a = b) : (a != b) = false := by rw [h]; simp

set_option maxHeartbeats 400000 in
theorem walk (a0 : ByteArray) (a1 : ByteArray) (w0 : a0.size ≤ maxLen) (w1 : a1.size ≤ maxLen) (w : World) :
    Calls Try.prog 8 #[.string a0, .string a1] w fun e w' => e = .returned (.bool true) ∧ Grown w w' := by
  by_cases hb : a0.size + a1.size ≤ 1048576
  · by_cases h1 : Plain.ceA a0.data.toList 1 0 = a0.size
    · by_cases h2 : Plain.ceA a1.data.toList 1 0 = a1.size
      · obtain ⟨n1, n2⟩ := Plain.ceA_nests a0.data.toList a1.data.toList h1 h2
        have hz1 : (({ data := #[47, 42] } : ByteArray) ++ a0).size ≤ 16777216 := by rw [ByteArray.size_append]; show 2 + a0.size ≤ _; omega
        have hz2 : (({ data := #[47, 42] } : ByteArray) ++ a0 ++ a1).size ≤ 16777216 := by rw [ByteArray.size_append, ByteArray.size_append]; show 2 + a0.size + a1.size ≤ _; omega
        have m1 : Plain.ceA (({ data := #[47, 42] } : ByteArray) ++ a0).data.toList 1 0 = -1 := by
          rw [ByteArray.data_append, Array.toList_append]; exact n1
        have m2 : Plain.ceA (({ data := #[47, 42] } : ByteArray) ++ a0 ++ a1).data.toList 1 0 = 2 + (a0.size : Int) + a1.size := by
          rw [ByteArray.data_append, ByteArray.data_append, Array.toList_append, Array.toList_append]; exact n2
        clear n1 n2
        go_enter Try.func8, Try.ntmps8
        go_wp2_with fail
        refine (g19_yes _ _ _ hb).mono ?_; rintro e w' ⟨rfl, rfl⟩
        go_wp2_with fail
        refine (zzce_zero _ _ (by omega)).mono ?_; rintro e w' ⟨rfl, rfl⟩
        go_wp2_with fail
        refine (zzce_zero _ _ (by omega)).mono ?_; rintro e w' ⟨rfl, rfl⟩
        go_wp2_with fail
        refine (zzce_zero _ _ hz1).mono ?_; rintro e w' ⟨rfl, rfl⟩
        rw [m1]
        go_wp2_with fail
        refine (zzce_zero _ _ hz2).mono ?_; rintro e w' ⟨rfl, rfl⟩
        rw [m2]
        go_wp2_with fail
        go_ret
        exact ⟨by simp, Grown.refl _⟩
      · have h2' : (Plain.ceA a1.data.toList 1 0 != (a1.size : Int)) = true := by simpa using h2
        go_enter Try.func8, Try.ntmps8
        go_wp2_with fail
        refine (g19_yes _ _ _ hb).mono ?_; rintro e w' ⟨rfl, rfl⟩
        go_wp2_with fail
        refine (zzce_zero _ _ (by omega)).mono ?_; rintro e w' ⟨rfl, rfl⟩
        go_wp2_with fail
        refine (zzce_zero _ _ (by omega)).mono ?_; rintro e w' ⟨rfl, rfl⟩
        go_wp2_with fail
        go_ret
        exact ⟨rfl, Grown.refl _⟩
    · have h1' : (Plain.ceA a0.data.toList 1 0 != (a0.size : Int)) = true := by simpa using h1
      go_enter Try.func8, Try.ntmps8
      go_wp2_with fail
      refine (g19_yes _ _ _ hb).mono ?_; rintro e w' ⟨rfl, rfl⟩
      go_wp2_with fail
      refine (zzce_zero _ _ (by omega)).mono ?_; rintro e w' ⟨rfl, rfl⟩
      go_wp2_with fail
      go_ret
      exact ⟨rfl, Grown.refl _⟩
  · go_enter Try.func8, Try.ntmps8
    go_wp2_with (go_at_call 19; refine (g19_no _ _ _ w0 w1 hb).mono ?_; rintro e w' ⟨rfl, rfl⟩)
    go_ret
    exact ⟨rfl, Grown.refl _⟩
end Go.Proofs.Qxb6600557a.Nests
