/-
  THE WALK of FnQuotedEndShiftsAndCloses.
-/
import Derived.Test.Qxb6600557aScan
import Derived.Test.Qxb6600557aGuards
namespace Go.Proofs.Qxb6600557a.Shifts
open Go.RowKit

/-- the shim, at a place that the walk has summed -/
theorem zzqe_at (s : ByteArray) (i : Nat) (p : Int) (q : Int) (esc : Bool) (w : World) (hp : p = (i : Int)) (hs : s.size ≤ 16777216) (hi : (i : Int) ≤ 9223372036854775807) :
    Calls Try.prog 11 #[.string s, .int .i64 p, .int .u8 q, .bool esc] w fun e w' => e = .returned (.int .i64 (Plain.qeA s.data.toList q esc i)) ∧ w' = w := by
  subst hp; exact zzqe_any s i q esc w hs hi

set_option maxHeartbeats 400000 in
theorem walk (a0 : ByteArray) (a1 : ByteArray) (a2 : Int) (a3 : Int) (a4 : Bool) (w0 : a0.size ≤ maxLen) (w1 : a1.size ≤ maxLen) (w : World) :
    Calls Try.prog 5 #[.string a0, .string a1, .int .i64 a2, .int .u8 a3, .bool a4] w fun e w' => e = .returned (.bool true) ∧ Grown w w' := by
  by_cases hb : a0.size + a1.size ≤ 1048576
  · by_cases h1 : a2 < 0
    · go_enter Try.func5, Try.ntmps5
      go_wp2_with (go_at_call 14; refine (g14_yes _ _ _ _ _ _ hb).mono ?_; rintro e w' ⟨rfl, rfl⟩)
      go_ret
      exact ⟨rfl, Grown.refl _⟩
    · by_cases h2 : (a1.size : Int) < a2
      · go_enter Try.func5, Try.ntmps5
        go_wp2_with (go_at_call 14; refine (g14_yes _ _ _ _ _ _ hb).mono ?_; rintro e w' ⟨rfl, rfl⟩)
        go_ret
        exact ⟨rfl, Grown.refl _⟩
      · obtain ⟨i, rfl⟩ : ∃ i : Nat, a2 = (i : Int) := ⟨a2.toNat, by omega⟩
        have hi : i ≤ a1.size := by omega
        clear h1 h2
        have hz : (a0 ++ a1).size ≤ 16777216 := by rw [ByteArray.size_append]; omega
        have hj : ((a0.size + i : Nat) : Int) ≤ 9223372036854775807 := by omega
        have ej : (a0.size : Int) + (i : Int) = ((a0.size + i : Nat) : Int) := by omega
        have EJ : Hid ((a0.size : Int) + (i : Int) = ((a0.size + i : Nat) : Int)) := ej
        clear ej
        rcases Plain.qeA_shift a0.data.toList a1.data.toList a3 a4 i hi with ⟨n1, n2⟩ | ⟨k, hk, k1, k2, ⟨c, c1, c2⟩, hm⟩
        · have n2' : Plain.qeA (a0 ++ a1).data.toList a3 a4 (a0.size + i) = -1 := by rw [ByteArray.data_append, Array.toList_append]; exact n2
          clear n2
          go_enter Try.func5, Try.ntmps5
          go_wp2_with fail
          refine (g14_yes _ _ _ _ _ _ hb).mono ?_; rintro e w' ⟨rfl, rfl⟩
          go_wp2_with fail
          refine (zzqe_any _ _ _ _ _ (by omega) (by omega)).mono ?_; rintro e w' ⟨rfl, rfl⟩
          rw [n1]
          go_wp2_with fail
          refine (zzqe_at _ _ _ _ _ _ EJ.out hz hj).mono ?_; rintro e w' ⟨rfl, rfl⟩
          rw [n2']
          go_wp2_with fail
          go_ret
          exact ⟨rfl, Grown.refl _⟩
        · have m2' : Plain.qeA (a0 ++ a1).data.toList a3 a4 (a0.size + i) = (k : Int) + a0.size := by rw [ByteArray.data_append, Array.toList_append]; exact hm
          have k2' : k ≤ a1.size := k2
          obtain b1 : k - 1 < a1.size := by omega
          have hc : ((a1[k - 1]'b1).toNat : Int) = a3 := byte_at a1 (k - 1) b1 c a3 c1 c2
          clear c1 c2 hm k2
          go_enter Try.func5, Try.ntmps5
          go_wp2_with fail
          refine (g14_yes _ _ _ _ _ _ hb).mono ?_; rintro e w' ⟨rfl, rfl⟩
          go_wp2_with fail
          refine (zzqe_any _ _ _ _ _ (by omega) (by omega)).mono ?_; rintro e w' ⟨rfl, rfl⟩
          rw [hk]
          go_wp2_with fail
          refine (zzqe_at _ _ _ _ _ _ EJ.out hz hj).mono ?_; rintro e w' ⟨rfl, rfl⟩
          rw [m2']
          go_wp2_with fail
          go_ret
          exact ⟨by simp, Grown.refl _⟩
  · go_enter Try.func5, Try.ntmps5
    go_wp2_with (go_at_call 14; refine (g14_no _ _ _ _ _ _ w0 w1 hb).mono ?_; rintro e w' ⟨rfl, rfl⟩)
    go_ret
    exact ⟨rfl, Grown.refl _⟩
end Go.Proofs.Qxb6600557a.Shifts
