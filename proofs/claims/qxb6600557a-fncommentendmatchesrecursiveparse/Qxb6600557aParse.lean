/-
  THE CONTRACT of commentBodyEndB1 (it calls itself) and THE WALK of FnCommentEndMatchesRecursiveParse.
-/
import Derived.Test.Qxb6600557aScan
import Derived.Test.Qxb6600557aGuards
namespace Go.Proofs.Qxb6600557a.Parse
open Go.RowKit

set_option maxHeartbeats 1000000 in
theorem body_any (s : ByteArray) (hs : s.size ≤ 16777216) (n : Nat) : ∀ (j : Nat) (p : Int) (w : World), p = (j : Int) → j ≤ s.size → s.size < j + n →
    Calls Try.prog 17 #[.string s, .int .i64 p] w fun e w' => e = .returned (.int .i64 (Plain.ceA s.data.toList 1 j)) ∧ w' = w := by
  induction n with
  | zero => intro j p w _ h1 h2; omega
  | succ n ih =>
    intro j p w hp hj hn
    subst hp
    have IH : Hid (∀ (j : Nat) (p : Int) (w : World), p = (j : Int) → j ≤ s.size → s.size < j + n →
        Calls Try.prog 17 #[.string s, .int .i64 p] w fun e w' => e = .returned (.int .i64 (Plain.ceA s.data.toList 1 j)) ∧ w' = w) := ih
    clear ih
    go_enter Try.func17, Try.ntmps17
    go_wp2_with fail
    go_loop [1] (fun t => ∃ k : Nat, j ≤ k ∧ k ≤ s.size ∧ t = .int .i64 k ∧ Plain.ceA s.data.toList 1 k = Plain.ceA s.data.toList 1 j) (fun t => s.size + 1 - (intOf t).toNat)
    case atStart => exact ⟨j, by omega, hj, rfl, rfl⟩
    case round =>
      obtain ⟨k, hjk, hk, rfl, he⟩ := hrel
      have HE : Hid (Plain.ceA s.data.toList 1 k = Plain.ceA s.data.toList 1 j) := he
      clear he
      by_cases hlt : k + 1 < s.size
      · by_cases h47 : ((s[k]'(by omega)).toNat : Int) = 47
        · by_cases h42 : ((s[k + 1]'hlt).toNat : Int) = 42
          · have ho : Hid (Plain.ceA s.data.toList 2 (k + 2) = Plain.ceA s.data.toList 1 k) := c_open s 0 k hlt h47 h42
            have hjk2 : k + 2 ≤ s.size := by omega
            rcases Plain.ceA_two s.data.toList (k + 2) with ⟨n1, n2⟩ | ⟨m, m1, m2, m3, m4⟩
            · have N2 : Hid (Plain.ceA s.data.toList 2 (k + 2) = -1) := n2
              clear n2
              go_wp2_with fail
              refine (IH.out (k + 2) _ _ (by omega) hjk2 (by omega)).mono ?_; rintro e w' ⟨rfl, rfl⟩
              rw [n1]
              go_wp2_with fail
              go_ret
              exact ⟨ret_int (by rw [← HE.out, ← ho.out, N2.out]), rfl⟩
            · have M4 : Hid (Plain.ceA s.data.toList 2 (k + 2) = Plain.ceA s.data.toList 1 m) := m4
              have m3' : m ≤ s.size := m3
              clear m4 m3
              go_wp2_with fail
              refine (IH.out (k + 2) _ _ (by omega) hjk2 (by omega)).mono ?_; rintro e w' ⟨rfl, rfl⟩
              rw [m1]
              go_wp2_with fail
              go_round
              case rel => exact ⟨m, by omega, m3', rfl, by rw [← M4.out, ho.out]; exact HE.out⟩
              case measure => simp [intOf]; omega
          · go_wp2_with fail
            go_round
            case rel => exact ⟨k + 1, by omega, by omega, by go_num, (c_other s 0 k hlt (fun _ h => h42 h) (fun h => by omega)).trans HE.out⟩
            case measure => simp [intOf]; omega
        · go_wp2_with fail
          · go_ret
            exact ⟨ret_int (by rw [← HE.out, ← c_close s 0 k hlt ‹_› (beq_t ‹_›), Plain.ceA_zero]; omega), rfl⟩
          · go_round
            case rel => exact ⟨k + 1, by omega, by omega, by go_num, (c_other s 0 k hlt (fun h => by omega) (fun _ => beq_f ‹_›)).trans HE.out⟩
            case measure => simp [intOf]; omega
          · go_round
            case rel => exact ⟨k + 1, by omega, by omega, by go_num, (c_other s 0 k hlt (fun h => by omega) (fun h => by omega)).trans HE.out⟩
            case measure => simp [intOf]; omega
      · go_wp2_with fail
        go_ret
        exact ⟨ret_int (by rw [← HE.out, Plain.ceA_end _ 0 _ (by rw [len_toList]; omega)]), rfl⟩

set_option maxHeartbeats 400000 in
theorem walk (a0 : ByteArray) (a1 : Int) (w0 : a0.size ≤ maxLen) (w : World) :
    Calls Try.prog 6 #[.string a0, .int .i64 a1] w fun e w' => e = .returned (.bool true) ∧ Grown w w' := by
  by_cases hb : a0.size ≤ 1048576
  · by_cases h1 : a1 < 0
    · go_enter Try.func6, Try.ntmps6
      go_wp2_with (go_at_call 15; refine (g15_yes _ _ _ hb).mono ?_; rintro e w' ⟨rfl, rfl⟩)
      go_ret
      exact ⟨rfl, Grown.refl _⟩
    · by_cases h2 : (a0.size : Int) < a1
      · go_enter Try.func6, Try.ntmps6
        go_wp2_with (go_at_call 15; refine (g15_yes _ _ _ hb).mono ?_; rintro e w' ⟨rfl, rfl⟩)
        go_ret
        exact ⟨rfl, Grown.refl _⟩
      · obtain ⟨i, rfl⟩ : ∃ i : Nat, a1 = (i : Int) := ⟨a1.toNat, by omega⟩
        have hi : i ≤ a0.size := by omega
        clear h1 h2
        have hz : a0.size ≤ 16777216 := by omega
        go_enter Try.func6, Try.ntmps6
        go_wp2_with fail
        refine (g15_yes _ _ _ hb).mono ?_; rintro e w' ⟨rfl, rfl⟩
        go_wp2_with fail
        refine (zzce_any _ _ _ hz hi).mono ?_; rintro e w' ⟨rfl, rfl⟩
        go_wp2_with fail
        refine (body_any _ hz (a0.size + 1) i _ _ rfl hi (by omega)).mono ?_; rintro e w' ⟨rfl, rfl⟩
        go_wp2_with fail
        go_ret
        exact ⟨by simp, Grown.refl _⟩
  · go_enter Try.func6, Try.ntmps6
    go_wp2_with (go_at_call 15; refine (g15_no _ _ _ w0 hb).mono ?_; rintro e w' ⟨rfl, rfl⟩)
    go_ret
    exact ⟨rfl, Grown.refl _⟩
end Go.Proofs.Qxb6600557a.Parse
