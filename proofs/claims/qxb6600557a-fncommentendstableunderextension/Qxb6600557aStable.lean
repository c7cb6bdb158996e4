import Derived.Test.Qxb6600557aScan
import Derived.Test.Qxb6600557aGuards
namespace Go.Proofs.Qxb6600557a.Stable
open Go.RowKit

set_option maxHeartbeats 400000 in
theorem walk (a0 : ByteArray) (a1 : ByteArray) (a2 : Int) (w0 : a0.size ≤ maxLen) (w1 : a1.size ≤ maxLen) (w : World) :
    Calls Try.prog 7 #[.string a0, .string a1, .int .i64 a2] w fun e w' => e = .returned (.bool true) ∧ Grown w w' := by
  by_cases hb : a0.size + a1.size ≤ 1048576
  · by_cases h1 : a2 < 0
    · go_enter Try.func7, Try.ntmps7
      go_wp2_with (go_at_call 18; refine (g18_yes _ _ _ _ hb).mono ?_; rintro e w' ⟨rfl, rfl⟩)
      go_ret
      exact ⟨rfl, Grown.refl _⟩
    · by_cases h2 : (a0.size : Int) < a2
      · go_enter Try.func7, Try.ntmps7
        go_wp2_with (go_at_call 18; refine (g18_yes _ _ _ _ hb).mono ?_; rintro e w' ⟨rfl, rfl⟩)
        go_ret
        exact ⟨rfl, Grown.refl _⟩
      · obtain ⟨i, rfl⟩ : ∃ i : Nat, a2 = (i : Int) := ⟨a2.toNat, by omega⟩
        have hi : i ≤ a0.size := by omega
        clear h1 h2
        rcases Plain.ceA_stable a0.data.toList a1.data.toList i hi with hn | ⟨k, hk, k1, k2, ⟨c, c1, c2⟩, ⟨d, d1, d2⟩, hm⟩
        · go_enter Try.func7, Try.ntmps7
          go_wp2_with fail
          refine (g18_yes _ _ _ _ hb).mono ?_; rintro e w' ⟨rfl, rfl⟩
          go_wp2_with fail
          refine (zzce_any _ _ _ (by omega) hi).mono ?_; rintro e w' ⟨rfl, rfl⟩
          go_wp2_with fail
          go_ret
          exact ⟨rfl, Grown.refl _⟩
        · have k2' : k ≤ a0.size := k2
          obtain ⟨b2, b1⟩ : k - 2 < a0.size ∧ k - 1 < a0.size := by omega
          have hc : ((a0[k - 2]'b2).toNat : Int) = 42 := byte_at a0 (k - 2) b2 c 42 c1 (by omega)
          have hd : ((a0[k - 1]'b1).toNat : Int) = 47 := byte_at a0 (k - 1) b1 d 47 d1 (by omega)
          have hz : (a0 ++ a1).size ≤ 16777216 := by rw [ByteArray.size_append]; omega
          have hz' : i ≤ (a0 ++ a1).size := by rw [ByteArray.size_append]; omega
          have hm' : Plain.ceA (a0 ++ a1).data.toList 1 i = (k : Int) := by rw [ByteArray.data_append, Array.toList_append]; exact hm
          clear c1 c2 d1 d2 hm k2
          go_enter Try.func7, Try.ntmps7
          go_wp2_with fail
          refine (g18_yes _ _ _ _ hb).mono ?_; rintro e w' ⟨rfl, rfl⟩
          go_wp2_with fail
          refine (zzce_any _ _ _ (by omega) hi).mono ?_; rintro e w' ⟨rfl, rfl⟩
          go_wp2_with fail
          refine (zzce_any _ _ _ hz hz').mono ?_; rintro e w' ⟨rfl, rfl⟩
          go_wp2_with fail
          go_ret
          exact ⟨ret_eq hm', Grown.refl _⟩
  · go_enter Try.func7, Try.ntmps7
    go_wp2_with (go_at_call 18; refine (g18_no _ _ _ _ w0 w1 hb).mono ?_; rintro e w' ⟨rfl, rfl⟩)
    go_ret
    exact ⟨rfl, Grown.refl _⟩
end Go.Proofs.Qxb6600557a.Stable
