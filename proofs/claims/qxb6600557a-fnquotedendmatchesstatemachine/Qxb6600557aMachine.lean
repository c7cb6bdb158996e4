/-
  THE CONTRACT of quotedEndModelB1 and THE WALK of FnQuotedEndMatchesStateMachine.
-/
import Derived.Test.Qxb6600557aScan
import Derived.Test.Qxb6600557aGuards
import Derived.OpenShut
namespace Go.Proofs.Qxb6600557a.Machine
open Go.RowKit

theorem n92 {a : Int} (h : (a == 92) = false) : ¬ a = 92 := beq_f h

set_option maxHeartbeats 1000000 in
theorem md_any (s : ByteArray) (i : Nat) (q : Int) (esc : Bool) (w : World) (hs : s.size ≤ 16777216) (hi : (i : Int) ≤ 9223372036854775807) :
    Calls Try.prog 12 #[.string s, .int .i64 i, .int .u8 q, .bool esc] w fun e w' => e = .returned (.int .i64 (Plain.mdA s.data.toList q esc 0 i)) ∧ w' = w := by
  go_enter Try.func12, Try.ntmps12
  go_wp2
  go_loop [9, 10] (fun u t => ∃ k st : Nat, (k : Int) ≤ 9223372036854775807 ∧ st ≤ 2 ∧ (st ≠ 0 → k ≤ s.size) ∧ t = .int .i64 k ∧ u = .int .i64 st ∧ Plain.mdA s.data.toList q esc st k = Plain.mdA s.data.toList q esc 0 i) (fun _ t => s.size + 1 - (intOf t).toNat)
  case atStart => exact ⟨i, 0, hi, by omega, by omega, rfl, rfl, rfl⟩
  case round =>
    obtain ⟨k, st, hk, hst, hkst, rfl, rfl, he⟩ := hrel
    have HE : Hid (Plain.mdA s.data.toList q esc st k = Plain.mdA s.data.toList q esc 0 i) := he
    clear he
    match st, hst, hkst, HE with
    | 0, _, _, HE =>
      by_cases hlt : k < s.size
      · cases esc
        · go_wp2
          · go_round
            case rel => exact ⟨k + 1, 2, by omega, by omega, by omega, by go_num, rfl, (Plain.mdA_quote s.data.toList q false k hlt (fun h => by cases h.1) (beq_t ‹_›)).symm.trans HE.out⟩
            case measure => simp [intOf]; omega
          · go_round
            case rel => exact ⟨k + 1, 0, by omega, by omega, by omega, by go_num, rfl, (Plain.mdA_other s.data.toList q false k hlt (fun h => by cases h.1) (beq_f ‹_›)).symm.trans HE.out⟩
            case measure => simp [intOf]; omega
        · go_wp2
          · go_round
            case rel => exact ⟨k + 1, 1, by omega, by omega, by omega, by go_num, rfl, (Plain.mdA_esc s.data.toList q true k hlt ⟨rfl, beq_t ‹_›⟩).symm.trans HE.out⟩
            case measure => simp [intOf]; omega
          · go_round
            case rel => exact ⟨k + 1, 2, by omega, by omega, by omega, by go_num, rfl, (Plain.mdA_quote s.data.toList q true k hlt (fun h => (beq_f ‹_›) h.2) (beq_t ‹_›)).symm.trans HE.out⟩
            case measure => simp [intOf]; omega
          · go_round
            case rel => exact ⟨k + 1, 0, by omega, by omega, by omega, by go_num, rfl, (Plain.mdA_other s.data.toList q true k hlt (fun h => (n92 ‹_›) h.2) (beq_f ‹_›)).symm.trans HE.out⟩
            case measure => simp [intOf]; omega
      · go_wp2
        go_ret
        exact ⟨ret_int (by rw [← HE.out, Plain.mdA_end _ _ _ _ _ (by rw [len_toList]; omega) (by omega)]), rfl⟩
    | 1, _, hks, HE =>
      by_cases hlt : k < s.size
      · go_wp2
        go_round
        case rel => exact ⟨k + 1, 0, by omega, by omega, by omega, by go_num, rfl, (Plain.mdA_one s.data.toList q esc k hlt).symm.trans HE.out⟩
        case measure => simp [intOf]; omega
      · go_wp2
        go_ret
        exact ⟨ret_int (by rw [← HE.out, Plain.mdA_end _ _ _ _ _ (by rw [len_toList]; omega) (by omega)]), rfl⟩
    | 2, _, hks, HE =>
      by_cases hlt : k < s.size
      · go_wp2
        · go_round
          case rel => exact ⟨k + 1, 0, by omega, by omega, by omega, by go_num, rfl, (Plain.mdA_two s.data.toList q esc k hlt (beq_t ‹_›)).symm.trans HE.out⟩
          case measure => simp [intOf]; omega
        · go_ret
          exact ⟨ret_int (by rw [← HE.out]; exact (Plain.mdA_two' s.data.toList q esc k hlt (beq_f ‹_›)).symm), rfl⟩
      · have : k = s.size := by have := hks (by omega); omega
        subst this
        go_wp2
        go_ret
        exact ⟨ret_int (by rw [← HE.out, Plain.mdA_end2 _ _ _ _ (by rw [len_toList]; omega)]), rfl⟩

set_option maxHeartbeats 400000 in
theorem walk (a0 : ByteArray) (a1 : Int) (a2 : Int) (a3 : Bool) (w0 : a0.size ≤ maxLen) (w1 : (Lit.int .i64 a1).wf = true) (w : World) :
    Calls Try.prog 3 #[.string a0, .int .i64 a1, .int .u8 a2, .bool a3] w fun e w' => e = .returned (.bool true) ∧ Grown w w' := by
  by_cases hb : a0.size ≤ 1048576
  · by_cases h1 : a1 < 0
    · go_enter Try.func3, Try.ntmps3
      go_wp2_with (go_at_call 10; refine (g10_yes _ _ _ _ _ hb).mono ?_; rintro e w' ⟨rfl, rfl⟩)
      go_ret
      exact ⟨rfl, Grown.refl _⟩
    · obtain ⟨i, rfl⟩ : ∃ i : Nat, a1 = (i : Int) := ⟨a1.toNat, by omega⟩
      have hi : (i : Int) ≤ 9223372036854775807 := (bounds_i64 w1).2
      clear h1 w1
      have hz : a0.size ≤ 16777216 := by omega
      have hE : Plain.qeA a0.data.toList a2 a3 i = Plain.mdA a0.data.toList a2 a3 0 i := (Plain.mdA_eq _ _ _ _).symm
      have HE : Hid (Plain.qeA a0.data.toList a2 a3 i = Plain.mdA a0.data.toList a2 a3 0 i) := hE
      clear hE
      go_enter Try.func3, Try.ntmps3
      go_wp2_with fail
      refine (g10_yes _ _ _ _ _ hb).mono ?_; rintro e w' ⟨rfl, rfl⟩
      go_wp2_with fail
      refine (zzqe_any _ _ _ _ _ hz hi).mono ?_; rintro e w' ⟨rfl, rfl⟩
      go_wp2_with fail
      refine (md_any _ _ _ _ _ hz hi).mono ?_; rintro e w' ⟨rfl, rfl⟩
      go_wp2_with fail
      go_ret
      exact ⟨ret_eq HE.out, Grown.refl _⟩
  · go_enter Try.func3, Try.ntmps3
    go_wp2_with (go_at_call 10; refine (g10_no _ _ _ _ _ w0 hb).mono ?_; rintro e w' ⟨rfl, rfl⟩)
    go_ret
    exact ⟨rfl, Grown.refl _⟩
end Go.Proofs.Qxb6600557a.Machine
